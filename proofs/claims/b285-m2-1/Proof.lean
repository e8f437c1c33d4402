import JvmDerived
import JvmDerived.Pilot.@@N@@Statement
import JvmDerived.Pilot.@@N@@Code
set_option linter.unusedVariables false
set_option linter.unusedSimpArgs false
namespace Jvm.OwnWp
open Sem ClassFile Op Lib Jvm.Stand Jvm.Free Jvm.LawKit Jvm.RoadKit
/-- what holds of the method that is walked: its bytes, its class, its tables -/
def Cx (Z : State) (own nm : String) (bytes : ByteArray) (ml : Nat) (ret : Option FieldType) (p : Program) (s : State) (m : MethodId) (meth : Method) (c : Code) : Prop :=
  p.tables.exec = Jvm.exec ∧ Z.Warmed39 s.vm ∧ s.vm.findClass own = some m.cls ∧ c.code = bytes ∧ c.maxLocals = ml ∧ meth.sig.returnType = ret ∧ meth.locks = false ∧ meth.name = nm
/-- from the frame g over the heap h the method returns v at a heap of which Q holds; it has written fresh places alone -/
def Go (p : Program) (l : Launch) (e : Env) (R : Room) (s : State) (m : MethodId) (args : Array Value) (below : List Frame) (meth : Method) (c : Code) (n0 : Nat) (h : Heap) (ce sl : Nat) (g : JFrame) (Q : Option Value → Heap → Prop) : Prop :=
  ∀ (T : State) (L : List Loc), Stand p l e R s m args below meth c T L ce sl → Fr n0 L → T.heap = h →
    ∃ (s₂ : State) (v : Option Value) (L' : List Loc), Steps p.tables e below (T.setTop g) s₂ ∧ s₂.status = .running ∧ Ended s₂ below (.returned v) ∧ Fr n0 L' ∧ Q v s₂.heap ∧ FrameEnd s (.returned v) s₂ L' R.cells R.slots
/-- the contract of a method: called with the values as' over the heap h it returns as Q says -/
def Ctr (l : Launch) (Z : State) (y : MethodName) (bytes : ByteArray) (ml : Nat) (ret : Option FieldType) (ws : List Cond) (rm : Room) (n0 : Nat) (as' : Array Value) (h : Heap) (Q : Option Value → Heap → Prop) : Prop :=
  MetFree l y (head1 (Cond.code y bytes ml ret :: ws) rm) (fun a U => a = as' ∧ Z.Warmed39 U.vm ∧ U.heap = h) (fun _ _ _ _ _ => True) (fun _ U o U' => ∃ v L, o = .returned v ∧ (Q v U'.heap ∧ Fr n0 L) ∧ FrameEnd U o U' L rm.cells rm.slots)
section Walk
variable {p : Program} {l : Launch} {e : Env} {R : Room} {s : State} {m : MethodId} {args : Array Value} {below : List Frame} {meth : Method} {c : Code} {Z : State} {a0 : Array Value} {own nm : String} {bytes : ByteArray} {ml : Nat} {ret : Option FieldType} {n0 ce sl pc pc' : Nat} {h : Heap} {Ls Ls' : Array Slot} {S : List Value} {Q : Option Value → Heap → Prop}
theorem one {g g' : JFrame} (st : ∀ (T : State) (L : List Loc), Stand p l e R s m args below meth c T L ce sl → T.heap = h → ∀ t, Steps p.tables e below (T.setTop g') t → Steps p.tables e below (T.setTop g) t) (q : Go p l e R s m args below meth c n0 h ce sl g' Q) : Go p l e R s m args below meth c n0 h ce sl g Q := fun T L X N eT => by
  obtain ⟨s₂, v, L', a1, r⟩ := q T L X N eT
  exact ⟨s₂, v, L', st T L X eT _ a1, r⟩
/-- a step that goes to another state over the same heap -/
theorem oneT {g g' : JFrame} (st : ∀ (T : State) (L : List Loc), Stand p l e R s m args below meth c T L ce sl → T.heap = h → ∃ T', Stand p l e R s m args below meth c T' L ce sl ∧ T'.heap = h ∧ ∀ t, Steps p.tables e below (T'.setTop g') t → Steps p.tables e below (T.setTop g) t) (q : Go p l e R s m args below meth c n0 h ce sl g' Q) : Go p l e R s m args below meth c n0 h ce sl g Q := fun T L X N eT => by
  obtain ⟨T', X', eT', k⟩ := st T L X eT
  obtain ⟨s₂, v, L', a1, r⟩ := q T' L X' N eT'
  exact ⟨s₂, v, L', k _ a1, r⟩
theorem Go.cast {g g' : JFrame} (q : g = g') (k : Go p l e R s m args below meth c n0 h ce sl g' Q) : Go p l e R s m args below meth c n0 h ce sl g Q := q ▸ k
theorem Go.mono {g : JFrame} {Q' : Option Value → Heap → Prop} (k : Go p l e R s m args below meth c n0 h ce sl g Q') (q : ∀ v h, Q' v h → Q v h) : Go p l e R s m args below meth c n0 h ce sl g Q := fun T L X N eT => by
  obtain ⟨s₂, v, L', a1, a2, a3, a4, a5, r⟩ := k T L X N eT
  exact ⟨s₂, v, L', a1, a2, a3, a4, q _ _ a5, r⟩

theorem iloadN (K : Cx Z own nm bytes ml ret p s m meth c) {k : Fin 4} {v : Int32} (hd : decode bytes pc = .ok (.iload_n k, 1)) (hl : Ls[k.val]? = some (.val (.int v))) (hp : pc + 1 = pc') (q : Go p l e R s m args below meth c n0 h ce sl (mkF m pc' Ls (.int v :: S)) Q) : Go p l e R s m args below meth c n0 h ce sl (mkF m pc Ls S) Q := by
  subst hp; exact one (fun T L X _ t => Jvm.Free.XS.iloadN X.here K.1 rfl (hb K.2.2.2.1 hd) hl) q
theorem iload (K : Cx Z own nm bytes ml ret p s m meth c) {k : Nat} {v : Int32} (hd : decode bytes pc = .ok (.iload k, 2)) (hl : Ls[k]? = some (.val (.int v))) (hp : pc + 2 = pc') (q : Go p l e R s m args below meth c n0 h ce sl (mkF m pc' Ls (.int v :: S)) Q) : Go p l e R s m args below meth c n0 h ce sl (mkF m pc Ls S) Q := by
  subst hp; exact one (fun T L X _ t => Jvm.Free.XS.iload X.here K.1 rfl (hb K.2.2.2.1 hd) hl) q
theorem istoreN (K : Cx Z own nm bytes ml ret p s m meth c) {k : Fin 4} {v : Int32} (hd : decode bytes pc = .ok (.istore_n k, 1)) (hl : storeLocals Ls k.val (.int v) = some Ls') (hp : pc + 1 = pc') (q : Go p l e R s m args below meth c n0 h ce sl (mkF m pc' Ls' S) Q) : Go p l e R s m args below meth c n0 h ce sl (mkF m pc Ls (.int v :: S)) Q := by
  subst hp; exact one (fun T L X _ t => Jvm.Free.XS.istoreN X.here K.1 rfl (hb K.2.2.2.1 hd) rfl hl) q
theorem istore (K : Cx Z own nm bytes ml ret p s m meth c) {k : Nat} {v : Int32} (hd : decode bytes pc = .ok (.istore k, 2)) (hl : storeLocals Ls k (.int v) = some Ls') (hp : pc + 2 = pc') (q : Go p l e R s m args below meth c n0 h ce sl (mkF m pc' Ls' S) Q) : Go p l e R s m args below meth c n0 h ce sl (mkF m pc Ls (.int v :: S)) Q := by
  subst hp; exact one (fun T L X _ t => Jvm.Free.XS.istore X.here K.1 rfl (hb K.2.2.2.1 hd) rfl hl) q
theorem lloadN (K : Cx Z own nm bytes ml ret p s m meth c) {k : Fin 4} {v : Int64} (hd : decode bytes pc = .ok (.lload_n k, 1)) (hl : Ls[k.val]? = some (.val (.long v))) (hp : pc + 1 = pc') (q : Go p l e R s m args below meth c n0 h ce sl (mkF m pc' Ls (.long v :: S)) Q) : Go p l e R s m args below meth c n0 h ce sl (mkF m pc Ls S) Q := by
  subst hp; exact one (fun T L X _ t => Jvm.Free.XT.lloadN X.here K.1 rfl (hb K.2.2.2.1 hd) hl) q
theorem lload (K : Cx Z own nm bytes ml ret p s m meth c) {k : Nat} {v : Int64} (hd : decode bytes pc = .ok (.lload k, 2)) (hl : Ls[k]? = some (.val (.long v))) (hp : pc + 2 = pc') (q : Go p l e R s m args below meth c n0 h ce sl (mkF m pc' Ls (.long v :: S)) Q) : Go p l e R s m args below meth c n0 h ce sl (mkF m pc Ls S) Q := by
  subst hp; exact one (fun T L X _ t => Jvm.Free.XT.lload X.here K.1 rfl (hb K.2.2.2.1 hd) hl) q
theorem lstoreN (K : Cx Z own nm bytes ml ret p s m meth c) {k : Fin 4} {v : Int64} (hd : decode bytes pc = .ok (.lstore_n k, 1)) (hl : storeLocals Ls k.val (.long v) = some Ls') (hp : pc + 1 = pc') (q : Go p l e R s m args below meth c n0 h ce sl (mkF m pc' Ls' S) Q) : Go p l e R s m args below meth c n0 h ce sl (mkF m pc Ls (.long v :: S)) Q := by
  subst hp; exact one (fun T L X _ t => Jvm.Free.XT.lstoreN X.here K.1 rfl (hb K.2.2.2.1 hd) rfl hl) q
theorem lstore (K : Cx Z own nm bytes ml ret p s m meth c) {k : Nat} {v : Int64} (hd : decode bytes pc = .ok (.lstore k, 2)) (hl : storeLocals Ls k (.long v) = some Ls') (hp : pc + 2 = pc') (q : Go p l e R s m args below meth c n0 h ce sl (mkF m pc' Ls' S) Q) : Go p l e R s m args below meth c n0 h ce sl (mkF m pc Ls (.long v :: S)) Q := by
  subst hp; exact one (fun T L X _ t => Jvm.Free.XT.lstore X.here K.1 rfl (hb K.2.2.2.1 hd) rfl hl) q
theorem dloadN (K : Cx Z own nm bytes ml ret p s m meth c) {k : Fin 4} {v : UInt64} (hd : decode bytes pc = .ok (.dload_n k, 1)) (hl : Ls[k.val]? = some (.val (.double v))) (hp : pc + 1 = pc') (q : Go p l e R s m args below meth c n0 h ce sl (mkF m pc' Ls (.double v :: S)) Q) : Go p l e R s m args below meth c n0 h ce sl (mkF m pc Ls S) Q := by
  subst hp; exact one (fun T L X _ t => Jvm.Free.XS.dloadN X.here K.1 rfl (hb K.2.2.2.1 hd) hl) q
theorem dload (K : Cx Z own nm bytes ml ret p s m meth c) {k : Nat} {v : UInt64} (hd : decode bytes pc = .ok (.dload k, 2)) (hl : Ls[k]? = some (.val (.double v))) (hp : pc + 2 = pc') (q : Go p l e R s m args below meth c n0 h ce sl (mkF m pc' Ls (.double v :: S)) Q) : Go p l e R s m args below meth c n0 h ce sl (mkF m pc Ls S) Q := by
  subst hp; exact one (fun T L X _ t => Jvm.Free.XS.dload X.here K.1 rfl (hb K.2.2.2.1 hd) hl) q
theorem dstoreN (K : Cx Z own nm bytes ml ret p s m meth c) {k : Fin 4} {v : UInt64} (hd : decode bytes pc = .ok (.dstore_n k, 1)) (hl : storeLocals Ls k.val (.double v) = some Ls') (hp : pc + 1 = pc') (q : Go p l e R s m args below meth c n0 h ce sl (mkF m pc' Ls' S) Q) : Go p l e R s m args below meth c n0 h ce sl (mkF m pc Ls (.double v :: S)) Q := by
  subst hp; exact one (fun T L X _ t => Jvm.Free.XS.dstoreN X.here K.1 rfl (hb K.2.2.2.1 hd) rfl hl) q
theorem dstore (K : Cx Z own nm bytes ml ret p s m meth c) {k : Nat} {v : UInt64} (hd : decode bytes pc = .ok (.dstore k, 2)) (hl : storeLocals Ls k (.double v) = some Ls') (hp : pc + 2 = pc') (q : Go p l e R s m args below meth c n0 h ce sl (mkF m pc' Ls' S) Q) : Go p l e R s m args below meth c n0 h ce sl (mkF m pc Ls (.double v :: S)) Q := by
  subst hp; exact one (fun T L X _ t => Jvm.Free.XS.dstore X.here K.1 rfl (hb K.2.2.2.1 hd) rfl hl) q
theorem aloadN (K : Cx Z own nm bytes ml ret p s m meth c) {k : Fin 4} {v : Value} (hd : decode bytes pc = .ok (.aload_n k, 1)) (hl : Ls[k.val]? = some (.val v)) (hv : v.isRef = true) (hp : pc + 1 = pc') (q : Go p l e R s m args below meth c n0 h ce sl (mkF m pc' Ls (v :: S)) Q) : Go p l e R s m args below meth c n0 h ce sl (mkF m pc Ls S) Q := by
  subst hp; exact one (fun T L X _ t => Jvm.Free.XS.aloadN X.here K.1 rfl (hb K.2.2.2.1 hd) hl hv) q
theorem aload (K : Cx Z own nm bytes ml ret p s m meth c) {k : Nat} {v : Value} (hd : decode bytes pc = .ok (.aload k, 2)) (hl : Ls[k]? = some (.val v)) (hv : v.isRef = true) (hp : pc + 2 = pc') (q : Go p l e R s m args below meth c n0 h ce sl (mkF m pc' Ls (v :: S)) Q) : Go p l e R s m args below meth c n0 h ce sl (mkF m pc Ls S) Q := by
  subst hp; exact one (fun T L X _ t => Jvm.Free.XS.aload X.here K.1 rfl (hb K.2.2.2.1 hd) hl hv) q
theorem astoreN (K : Cx Z own nm bytes ml ret p s m meth c) {k : Fin 4} {v : Value} (hd : decode bytes pc = .ok (.astore_n k, 1)) (hv : v.isRef = true) (hl : storeLocals Ls k.val v = some Ls') (hp : pc + 1 = pc') (q : Go p l e R s m args below meth c n0 h ce sl (mkF m pc' Ls' S) Q) : Go p l e R s m args below meth c n0 h ce sl (mkF m pc Ls (v :: S)) Q := by
  subst hp; exact one (fun T L X _ t => Jvm.Free.XS.astoreN X.here K.1 rfl (hb K.2.2.2.1 hd) rfl hv hl) q
theorem astore (K : Cx Z own nm bytes ml ret p s m meth c) {k : Nat} {v : Value} (hd : decode bytes pc = .ok (.astore k, 2)) (hv : v.isRef = true) (hl : storeLocals Ls k v = some Ls') (hp : pc + 2 = pc') (q : Go p l e R s m args below meth c n0 h ce sl (mkF m pc' Ls' S) Q) : Go p l e R s m args below meth c n0 h ce sl (mkF m pc Ls (v :: S)) Q := by
  subst hp; exact one (fun T L X _ t => Jvm.Free.XS.astore X.here K.1 rfl (hb K.2.2.2.1 hd) rfl hv hl) q
theorem iconst (K : Cx Z own nm bytes ml ret p s m meth c) {i : Int} (v : Int32) (hd : decode bytes pc = .ok (.iconst i, 1)) (hv : Int32.ofInt i = v) (hp : pc + 1 = pc') (q : Go p l e R s m args below meth c n0 h ce sl (mkF m pc' Ls (.int v :: S)) Q) : Go p l e R s m args below meth c n0 h ce sl (mkF m pc Ls S) Q := by
  subst hp; exact one (fun T L X _ t => Jvm.Free.XT.iconstV X.here K.1 rfl v (hb K.2.2.2.1 hd) hv) q
theorem bipush (K : Cx Z own nm bytes ml ret p s m meth c) {i : Int} (v : Int32) (hd : decode bytes pc = .ok (.bipush i, 2)) (hv : (Int8.ofInt i).toInt32 = v) (hp : pc + 2 = pc') (q : Go p l e R s m args below meth c n0 h ce sl (mkF m pc' Ls (.int v :: S)) Q) : Go p l e R s m args below meth c n0 h ce sl (mkF m pc Ls S) Q := by
  subst hp; exact one (fun T L X _ t => Jvm.Free.XT.bipushV X.here K.1 rfl v (hb K.2.2.2.1 hd) hv) q
theorem sipush (K : Cx Z own nm bytes ml ret p s m meth c) {i : Int} (v : Int32) (hd : decode bytes pc = .ok (.sipush i, 3)) (hv : (Int16.ofInt i).toInt32 = v) (hp : pc + 3 = pc') (q : Go p l e R s m args below meth c n0 h ce sl (mkF m pc' Ls (.int v :: S)) Q) : Go p l e R s m args below meth c n0 h ce sl (mkF m pc Ls S) Q := by
  subst hp; exact one (fun T L X _ t => Jvm.Free.XT.sipushV X.here K.1 rfl v (hb K.2.2.2.1 hd) hv) q
theorem lconst (K : Cx Z own nm bytes ml ret p s m meth c) {i : Fin 2} (v : Int64) (hd : decode bytes pc = .ok (.lconst i, 1)) (hv : Int64.ofNat i = v) (hp : pc + 1 = pc') (q : Go p l e R s m args below meth c n0 h ce sl (mkF m pc' Ls (.long v :: S)) Q) : Go p l e R s m args below meth c n0 h ce sl (mkF m pc Ls S) Q := by
  subst hp; exact one (fun T L X _ t => Jvm.Free.XT.lconstV X.here K.1 rfl v (hb K.2.2.2.1 hd) hv) q
theorem istoreS (K : Cx Z own nm bytes ml ret p s m meth c) {k : Nat} {x : Int32} {o : Slot} (hd : decode bytes pc = .ok (.istore k, 2)) (hold : Ls[k]? = some o) (ho : One o) (hl : Ls.setIfInBounds k (.val (.int x)) = Ls') (hp : pc + 2 = pc') (q : Go p l e R s m args below meth c n0 h ce sl (mkF m pc' Ls' S) Q) : Go p l e R s m args below meth c n0 h ce sl (mkF m pc Ls (.int x :: S)) Q := by
  subst hp hl; exact one (fun T L X _ t => Jvm.Free.XS.istoreS X.here K.1 rfl (hb K.2.2.2.1 hd) rfl hold ho) q
theorem istoreNS (K : Cx Z own nm bytes ml ret p s m meth c) {k : Fin 4} {x : Int32} {o : Slot} (hd : decode bytes pc = .ok (.istore_n k, 1)) (hold : Ls[k.val]? = some o) (ho : One o) (hl : Ls.setIfInBounds k.val (.val (.int x)) = Ls') (hp : pc + 1 = pc') (q : Go p l e R s m args below meth c n0 h ce sl (mkF m pc' Ls' S) Q) : Go p l e R s m args below meth c n0 h ce sl (mkF m pc Ls (.int x :: S)) Q := by
  subst hp hl; exact one (fun T L X _ t => Jvm.Free.XS.istoreNS X.here K.1 rfl (hb K.2.2.2.1 hd) rfl hold ho) q
theorem dconst0 (K : Cx Z own nm bytes ml ret p s m meth c) {v : UInt64} (hd : decode bytes pc = .ok (.dconst 0, 1)) (hv : FP.dconst0 = v) (hp : pc + 1 = pc') (q : Go p l e R s m args below meth c n0 h ce sl (mkF m pc' Ls (.double v :: S)) Q) : Go p l e R s m args below meth c n0 h ce sl (mkF m pc Ls S) Q := by
  subst hp; exact one (fun T L X _ t => Jvm.Free.XS.dconst0 X.here K.1 rfl (hb K.2.2.2.1 hd) hv) q
theorem dconst1 (K : Cx Z own nm bytes ml ret p s m meth c) {v : UInt64} (hd : decode bytes pc = .ok (.dconst 1, 1)) (hv : FP.dconst1 = v) (hp : pc + 1 = pc') (q : Go p l e R s m args below meth c n0 h ce sl (mkF m pc' Ls (.double v :: S)) Q) : Go p l e R s m args below meth c n0 h ce sl (mkF m pc Ls S) Q := by
  subst hp; exact one (fun T L X _ t => Jvm.Free.XS.dconst1 X.here K.1 rfl (hb K.2.2.2.1 hd) hv) q
theorem anull (K : Cx Z own nm bytes ml ret p s m meth c) (hd : decode bytes pc = .ok (.aconst_null, 1)) (hp : pc + 1 = pc') (q : Go p l e R s m args below meth c n0 h ce sl (mkF m pc' Ls (.null :: S)) Q) : Go p l e R s m args below meth c n0 h ce sl (mkF m pc Ls S) Q := by
  subst hp; exact one (fun T L X _ t => Jvm.Free.XS.aconstNull X.here K.1 rfl (hb K.2.2.2.1 hd) ) q
theorem iinc (K : Cx Z own nm bytes ml ret p s m meth c) {k : Nat} {i : Int} {x : Int32} (v : Int32) (hd : decode bytes pc = .ok (.iinc k i, 3)) (hv : Int32.ofInt i = v) (hl : Ls[k]? = some (.val (.int x))) (hl' : storeLocals Ls k (.int (x + v)) = some Ls') (hp : pc + 3 = pc') (q : Go p l e R s m args below meth c n0 h ce sl (mkF m pc' Ls' S) Q) : Go p l e R s m args below meth c n0 h ce sl (mkF m pc Ls S) Q := by
  subst hp; exact one (fun T L X _ t => Jvm.Free.XT.iincV X.here K.1 rfl v (hb K.2.2.2.1 hd) hv hl hl') q
theorem iadd (K : Cx Z own nm bytes ml ret p s m meth c) {x y : Int32} (hd : decode bytes pc = .ok (.iadd, 1)) (hp : pc + 1 = pc') (q : Go p l e R s m args below meth c n0 h ce sl (mkF m pc' Ls (.int (x + y) :: S)) Q) : Go p l e R s m args below meth c n0 h ce sl (mkF m pc Ls (.int y :: .int x :: S)) Q := by
  subst hp; exact one (fun T L X _ t => Jvm.Free.XS.iadd X.here K.1 rfl (hb K.2.2.2.1 hd) rfl) q
theorem isub (K : Cx Z own nm bytes ml ret p s m meth c) {x y : Int32} (hd : decode bytes pc = .ok (.isub, 1)) (hp : pc + 1 = pc') (q : Go p l e R s m args below meth c n0 h ce sl (mkF m pc' Ls (.int (x - y) :: S)) Q) : Go p l e R s m args below meth c n0 h ce sl (mkF m pc Ls (.int y :: .int x :: S)) Q := by
  subst hp; exact one (fun T L X _ t => Jvm.Free.XS.isub X.here K.1 rfl (hb K.2.2.2.1 hd) rfl) q
theorem imul (K : Cx Z own nm bytes ml ret p s m meth c) {x y : Int32} (hd : decode bytes pc = .ok (.imul, 1)) (hp : pc + 1 = pc') (q : Go p l e R s m args below meth c n0 h ce sl (mkF m pc' Ls (.int (x * y) :: S)) Q) : Go p l e R s m args below meth c n0 h ce sl (mkF m pc Ls (.int y :: .int x :: S)) Q := by
  subst hp; exact one (fun T L X _ t => Jvm.Free.XS.imul X.here K.1 rfl (hb K.2.2.2.1 hd) rfl) q
theorem iand (K : Cx Z own nm bytes ml ret p s m meth c) {x y : Int32} (hd : decode bytes pc = .ok (.iand, 1)) (hp : pc + 1 = pc') (q : Go p l e R s m args below meth c n0 h ce sl (mkF m pc' Ls (.int (x &&& y) :: S)) Q) : Go p l e R s m args below meth c n0 h ce sl (mkF m pc Ls (.int y :: .int x :: S)) Q := by
  subst hp; exact one (fun T L X _ t => Jvm.Free.XS.iand X.here K.1 rfl (hb K.2.2.2.1 hd) rfl) q
theorem ior (K : Cx Z own nm bytes ml ret p s m meth c) {x y : Int32} (hd : decode bytes pc = .ok (.ior, 1)) (hp : pc + 1 = pc') (q : Go p l e R s m args below meth c n0 h ce sl (mkF m pc' Ls (.int (x ||| y) :: S)) Q) : Go p l e R s m args below meth c n0 h ce sl (mkF m pc Ls (.int y :: .int x :: S)) Q := by
  subst hp; exact one (fun T L X _ t => Jvm.Free.XT.ior X.here K.1 rfl (hb K.2.2.2.1 hd) rfl) q
theorem ixor (K : Cx Z own nm bytes ml ret p s m meth c) {x y : Int32} (hd : decode bytes pc = .ok (.ixor, 1)) (hp : pc + 1 = pc') (q : Go p l e R s m args below meth c n0 h ce sl (mkF m pc' Ls (.int (x ^^^ y) :: S)) Q) : Go p l e R s m args below meth c n0 h ce sl (mkF m pc Ls (.int y :: .int x :: S)) Q := by
  subst hp; exact one (fun T L X _ t => Jvm.Free.XT.ixor X.here K.1 rfl (hb K.2.2.2.1 hd) rfl) q
theorem ishl (K : Cx Z own nm bytes ml ret p s m meth c) {x y : Int32} (hd : decode bytes pc = .ok (.ishl, 1)) (hp : pc + 1 = pc') (q : Go p l e R s m args below meth c n0 h ce sl (mkF m pc' Ls (.int (x <<< (y &&& 31)) :: S)) Q) : Go p l e R s m args below meth c n0 h ce sl (mkF m pc Ls (.int y :: .int x :: S)) Q := by
  subst hp; exact one (fun T L X _ t => Jvm.Free.XT.ishl X.here K.1 rfl (hb K.2.2.2.1 hd) rfl) q
theorem ishr (K : Cx Z own nm bytes ml ret p s m meth c) {x y : Int32} (hd : decode bytes pc = .ok (.ishr, 1)) (hp : pc + 1 = pc') (q : Go p l e R s m args below meth c n0 h ce sl (mkF m pc' Ls (.int (x >>> (y &&& 31)) :: S)) Q) : Go p l e R s m args below meth c n0 h ce sl (mkF m pc Ls (.int y :: .int x :: S)) Q := by
  subst hp; exact one (fun T L X _ t => Jvm.Free.XT.ishr X.here K.1 rfl (hb K.2.2.2.1 hd) rfl) q
theorem iushr (K : Cx Z own nm bytes ml ret p s m meth c) {x y : Int32} (hd : decode bytes pc = .ok (.iushr, 1)) (hp : pc + 1 = pc') (q : Go p l e R s m args below meth c n0 h ce sl (mkF m pc' Ls (.int ((x.toUInt32 >>> (y &&& 31).toUInt32).toInt32) :: S)) Q) : Go p l e R s m args below meth c n0 h ce sl (mkF m pc Ls (.int y :: .int x :: S)) Q := by
  subst hp; exact one (fun T L X _ t => Jvm.Free.XT.iushr X.here K.1 rfl (hb K.2.2.2.1 hd) rfl) q
theorem irem_mod (x y : Int32) : x - (x / y) * y = x % y := by
  apply Int32.toInt_inj.mp
  have h1 := Int32.le_toInt (x % y)
  have h2 := Int32.toInt_lt (x % y)
  rw [Int32.toInt_sub, Int32.toInt_mul, Int32.toInt_div, Int.bmod_mul_bmod, Int.sub_bmod_bmod, Int.mul_comm (x.toInt.tdiv y.toInt), ← Int.tmod_def, ← Int32.toInt_mod]
  exact Int.bmod_eq_of_le_mul_two (by omega) (by omega)
theorem irem (K : Cx Z own nm bytes ml ret p s m meth c) {x y : Int32} (hd : decode bytes pc = .ok (.irem, 1)) (hy : y ≠ 0) (hp : pc + 1 = pc') (q : Go p l e R s m args below meth c n0 h ce sl (mkF m pc' Ls (.int (x % y) :: S)) Q) : Go p l e R s m args below meth c n0 h ce sl (mkF m pc Ls (.int y :: .int x :: S)) Q := by
  subst hp; rw [← irem_mod] at q; exact one (fun T L X _ t => Jvm.Free.XS.irem X.here K.1 rfl (hb K.2.2.2.1 hd) rfl hy) q
theorem idiv (K : Cx Z own nm bytes ml ret p s m meth c) {x y : Int32} (hd : decode bytes pc = .ok (.idiv, 1)) (hy : y ≠ 0) (hp : pc + 1 = pc') (q : Go p l e R s m args below meth c n0 h ce sl (mkF m pc' Ls (.int (x / y) :: S)) Q) : Go p l e R s m args below meth c n0 h ce sl (mkF m pc Ls (.int y :: .int x :: S)) Q := by
  subst hp; exact one (fun T L X _ t => Jvm.Free.XS.idiv X.here K.1 rfl (hb K.2.2.2.1 hd) rfl hy) q
theorem ladd (K : Cx Z own nm bytes ml ret p s m meth c) {x y : Int64} (hd : decode bytes pc = .ok (.ladd, 1)) (hp : pc + 1 = pc') (q : Go p l e R s m args below meth c n0 h ce sl (mkF m pc' Ls (.long (x + y) :: S)) Q) : Go p l e R s m args below meth c n0 h ce sl (mkF m pc Ls (.long y :: .long x :: S)) Q := by
  subst hp; exact one (fun T L X _ t => Jvm.Free.XT.ladd X.here K.1 rfl (hb K.2.2.2.1 hd) rfl) q
theorem lsub (K : Cx Z own nm bytes ml ret p s m meth c) {x y : Int64} (hd : decode bytes pc = .ok (.lsub, 1)) (hp : pc + 1 = pc') (q : Go p l e R s m args below meth c n0 h ce sl (mkF m pc' Ls (.long (x - y) :: S)) Q) : Go p l e R s m args below meth c n0 h ce sl (mkF m pc Ls (.long y :: .long x :: S)) Q := by
  subst hp; exact one (fun T L X _ t => Jvm.Free.XT.lsub X.here K.1 rfl (hb K.2.2.2.1 hd) rfl) q
theorem lmul (K : Cx Z own nm bytes ml ret p s m meth c) {x y : Int64} (hd : decode bytes pc = .ok (.lmul, 1)) (hp : pc + 1 = pc') (q : Go p l e R s m args below meth c n0 h ce sl (mkF m pc' Ls (.long (x * y) :: S)) Q) : Go p l e R s m args below meth c n0 h ce sl (mkF m pc Ls (.long y :: .long x :: S)) Q := by
  subst hp; exact one (fun T L X _ t => Jvm.Free.XT.lmul X.here K.1 rfl (hb K.2.2.2.1 hd) rfl) q
theorem land (K : Cx Z own nm bytes ml ret p s m meth c) {x y : Int64} (hd : decode bytes pc = .ok (.land, 1)) (hp : pc + 1 = pc') (q : Go p l e R s m args below meth c n0 h ce sl (mkF m pc' Ls (.long (x &&& y) :: S)) Q) : Go p l e R s m args below meth c n0 h ce sl (mkF m pc Ls (.long y :: .long x :: S)) Q := by
  subst hp; exact one (fun T L X _ t => Jvm.Free.XT.land X.here K.1 rfl (hb K.2.2.2.1 hd) rfl) q
theorem lor (K : Cx Z own nm bytes ml ret p s m meth c) {x y : Int64} (hd : decode bytes pc = .ok (.lor, 1)) (hp : pc + 1 = pc') (q : Go p l e R s m args below meth c n0 h ce sl (mkF m pc' Ls (.long (x ||| y) :: S)) Q) : Go p l e R s m args below meth c n0 h ce sl (mkF m pc Ls (.long y :: .long x :: S)) Q := by
  subst hp; exact one (fun T L X _ t => Jvm.Free.XT.lor X.here K.1 rfl (hb K.2.2.2.1 hd) rfl) q
theorem lxor (K : Cx Z own nm bytes ml ret p s m meth c) {x y : Int64} (hd : decode bytes pc = .ok (.lxor, 1)) (hp : pc + 1 = pc') (q : Go p l e R s m args below meth c n0 h ce sl (mkF m pc' Ls (.long (x ^^^ y) :: S)) Q) : Go p l e R s m args below meth c n0 h ce sl (mkF m pc Ls (.long y :: .long x :: S)) Q := by
  subst hp; exact one (fun T L X _ t => Jvm.Free.XT.lxor X.here K.1 rfl (hb K.2.2.2.1 hd) rfl) q
theorem lshl (K : Cx Z own nm bytes ml ret p s m meth c) {x : Int64} {y : Int32} (hd : decode bytes pc = .ok (.lshl, 1)) (hp : pc + 1 = pc') (q : Go p l e R s m args below meth c n0 h ce sl (mkF m pc' Ls (.long (x <<< (y.toInt64 &&& 63)) :: S)) Q) : Go p l e R s m args below meth c n0 h ce sl (mkF m pc Ls (.int y :: .long x :: S)) Q := by
  subst hp; exact one (fun T L X _ t => Jvm.Free.XT.lshl X.here K.1 rfl (hb K.2.2.2.1 hd) rfl) q
theorem lshr (K : Cx Z own nm bytes ml ret p s m meth c) {x : Int64} {y : Int32} (hd : decode bytes pc = .ok (.lshr, 1)) (hp : pc + 1 = pc') (q : Go p l e R s m args below meth c n0 h ce sl (mkF m pc' Ls (.long (x >>> (y.toInt64 &&& 63)) :: S)) Q) : Go p l e R s m args below meth c n0 h ce sl (mkF m pc Ls (.int y :: .long x :: S)) Q := by
  subst hp; exact one (fun T L X _ t => Jvm.Free.XT.lshr X.here K.1 rfl (hb K.2.2.2.1 hd) rfl) q
theorem lushr (K : Cx Z own nm bytes ml ret p s m meth c) {x : Int64} {y : Int32} (hd : decode bytes pc = .ok (.lushr, 1)) (hp : pc + 1 = pc') (q : Go p l e R s m args below meth c n0 h ce sl (mkF m pc' Ls (.long (XT.ushrL x y) :: S)) Q) : Go p l e R s m args below meth c n0 h ce sl (mkF m pc Ls (.int y :: .long x :: S)) Q := by
  subst hp; exact one (fun T L X _ t => Jvm.Free.XT.lushr X.here K.1 rfl (hb K.2.2.2.1 hd) rfl) q
theorem ldiv (K : Cx Z own nm bytes ml ret p s m meth c) {x y : Int64} (hd : decode bytes pc = .ok (.ldiv, 1)) (hy : y ≠ 0) (hp : pc + 1 = pc') (q : Go p l e R s m args below meth c n0 h ce sl (mkF m pc' Ls (.long (x / y) :: S)) Q) : Go p l e R s m args below meth c n0 h ce sl (mkF m pc Ls (.long y :: .long x :: S)) Q := by
  subst hp; exact one (fun T L X _ t => Jvm.Free.XT.ldiv X.here K.1 rfl (hb K.2.2.2.1 hd) rfl hy) q
theorem lrem (K : Cx Z own nm bytes ml ret p s m meth c) {x y : Int64} (hd : decode bytes pc = .ok (.lrem, 1)) (hy : y ≠ 0) (hp : pc + 1 = pc') (q : Go p l e R s m args below meth c n0 h ce sl (mkF m pc' Ls (.long (x % y) :: S)) Q) : Go p l e R s m args below meth c n0 h ce sl (mkF m pc Ls (.long y :: .long x :: S)) Q := by
  subst hp; rw [← lrem_mod] at q; exact one (fun T L X _ t => Jvm.Free.XT.lrem X.here K.1 rfl (hb K.2.2.2.1 hd) rfl hy) q
theorem lcmp (K : Cx Z own nm bytes ml ret p s m meth c) {x y : Int64} (hd : decode bytes pc = .ok (.lcmp, 1)) (hp : pc + 1 = pc') (q : Go p l e R s m args below meth c n0 h ce sl (mkF m pc' Ls (.int (XT.cmpL x y) :: S)) Q) : Go p l e R s m args below meth c n0 h ce sl (mkF m pc Ls (.long y :: .long x :: S)) Q := by
  subst hp; exact one (fun T L X _ t => Jvm.Free.XT.lcmp X.here K.1 rfl (hb K.2.2.2.1 hd) rfl) q
theorem i2l (K : Cx Z own nm bytes ml ret p s m meth c) {x : Int32} (hd : decode bytes pc = .ok (.i2l, 1)) (hp : pc + 1 = pc') (q : Go p l e R s m args below meth c n0 h ce sl (mkF m pc' Ls (.long x.toInt64 :: S)) Q) : Go p l e R s m args below meth c n0 h ce sl (mkF m pc Ls (.int x :: S)) Q := by
  subst hp; exact one (fun T L X _ t => Jvm.Free.XT.i2l X.here K.1 rfl (hb K.2.2.2.1 hd) rfl) q
theorem l2i (K : Cx Z own nm bytes ml ret p s m meth c) {x : Int64} (hd : decode bytes pc = .ok (.l2i, 1)) (hp : pc + 1 = pc') (q : Go p l e R s m args below meth c n0 h ce sl (mkF m pc' Ls (.int x.toInt32 :: S)) Q) : Go p l e R s m args below meth c n0 h ce sl (mkF m pc Ls (.long x :: S)) Q := by
  subst hp; exact one (fun T L X _ t => Jvm.Free.XT.l2i X.here K.1 rfl (hb K.2.2.2.1 hd) rfl) q
theorem i2c (K : Cx Z own nm bytes ml ret p s m meth c) {x : Int32} (hd : decode bytes pc = .ok (.i2c, 1)) (hp : pc + 1 = pc') (q : Go p l e R s m args below meth c n0 h ce sl (mkF m pc' Ls (.int x.toUInt32.toUInt16.toUInt32.toInt32 :: S)) Q) : Go p l e R s m args below meth c n0 h ce sl (mkF m pc Ls (.int x :: S)) Q := by
  subst hp; exact one (fun T L X _ t => Jvm.Free.XT.i2c X.here K.1 rfl (hb K.2.2.2.1 hd) rfl) q
theorem i2b (K : Cx Z own nm bytes ml ret p s m meth c) {x : Int32} (hd : decode bytes pc = .ok (.i2b, 1)) (hp : pc + 1 = pc') (q : Go p l e R s m args below meth c n0 h ce sl (mkF m pc' Ls (.int x.toInt8.toInt32 :: S)) Q) : Go p l e R s m args below meth c n0 h ce sl (mkF m pc Ls (.int x :: S)) Q := by
  subst hp; exact one (fun T L X _ t => Jvm.Free.XT.i2b X.here K.1 rfl (hb K.2.2.2.1 hd) rfl) q
theorem i2d (K : Cx Z own nm bytes ml ret p s m meth c) {x : Int32} (hd : decode bytes pc = .ok (.i2d, 1)) (hp : pc + 1 = pc') (q : Go p l e R s m args below meth c n0 h ce sl (mkF m pc' Ls (.double (FP.i2d x) :: S)) Q) : Go p l e R s m args below meth c n0 h ce sl (mkF m pc Ls (.int x :: S)) Q := by
  subst hp; exact one (fun T L X _ t => Jvm.Free.XS.i2dS X.here K.1 rfl (hb K.2.2.2.1 hd) rfl rfl) q
theorem l2d (K : Cx Z own nm bytes ml ret p s m meth c) {x : Int64} (hd : decode bytes pc = .ok (.l2d, 1)) (hp : pc + 1 = pc') (q : Go p l e R s m args below meth c n0 h ce sl (mkF m pc' Ls (.double (FP.l2d x) :: S)) Q) : Go p l e R s m args below meth c n0 h ce sl (mkF m pc Ls (.long x :: S)) Q := by
  subst hp; exact one (fun T L X _ t => Jvm.Free.XS.l2dS X.here K.1 rfl (hb K.2.2.2.1 hd) rfl rfl) q
theorem d2l (K : Cx Z own nm bytes ml ret p s m meth c) {x : UInt64} (hd : decode bytes pc = .ok (.d2l, 1)) (hp : pc + 1 = pc') (q : Go p l e R s m args below meth c n0 h ce sl (mkF m pc' Ls (.long (FP.d2l x) :: S)) Q) : Go p l e R s m args below meth c n0 h ce sl (mkF m pc Ls (.double x :: S)) Q := by
  subst hp; exact one (fun T L X _ t => Jvm.Free.XS.d2lS X.here K.1 rfl (hb K.2.2.2.1 hd) rfl rfl) q
theorem d2i (K : Cx Z own nm bytes ml ret p s m meth c) {x : UInt64} (hd : decode bytes pc = .ok (.d2i, 1)) (hp : pc + 1 = pc') (q : Go p l e R s m args below meth c n0 h ce sl (mkF m pc' Ls (.int (FP.d2i x) :: S)) Q) : Go p l e R s m args below meth c n0 h ce sl (mkF m pc Ls (.double x :: S)) Q := by
  subst hp; exact one (fun T L X _ t => Jvm.Free.XS.d2iS X.here K.1 rfl (hb K.2.2.2.1 hd) rfl rfl) q
theorem dadd (K : Cx Z own nm bytes ml ret p s m meth c) {x y : UInt64} (hd : decode bytes pc = .ok (.dadd, 1)) (hn : Jvm.Free.Fl.NoNaN64 (FP.dadd x y)) (hp : pc + 1 = pc') (q : Go p l e R s m args below meth c n0 h ce sl (mkF m pc' Ls (.double (FP.dadd x y) :: S)) Q) : Go p l e R s m args below meth c n0 h ce sl (mkF m pc Ls (.double y :: .double x :: S)) Q := by
  subst hp; exact one (fun T L X _ t => Jvm.Free.XS.daddS X.here K.1 rfl (hb K.2.2.2.1 hd) rfl hn rfl) q
theorem dsub (K : Cx Z own nm bytes ml ret p s m meth c) {x y : UInt64} (hd : decode bytes pc = .ok (.dsub, 1)) (hn : Jvm.Free.Fl.NoNaN64 (FP.dsub x y)) (hp : pc + 1 = pc') (q : Go p l e R s m args below meth c n0 h ce sl (mkF m pc' Ls (.double (FP.dsub x y) :: S)) Q) : Go p l e R s m args below meth c n0 h ce sl (mkF m pc Ls (.double y :: .double x :: S)) Q := by
  subst hp; exact one (fun T L X _ t => Jvm.Free.XS.dsubS X.here K.1 rfl (hb K.2.2.2.1 hd) rfl hn rfl) q
theorem dmul (K : Cx Z own nm bytes ml ret p s m meth c) {x y : UInt64} (hd : decode bytes pc = .ok (.dmul, 1)) (hn : Jvm.Free.Fl.NoNaN64 (FP.dmul x y)) (hp : pc + 1 = pc') (q : Go p l e R s m args below meth c n0 h ce sl (mkF m pc' Ls (.double (FP.dmul x y) :: S)) Q) : Go p l e R s m args below meth c n0 h ce sl (mkF m pc Ls (.double y :: .double x :: S)) Q := by
  subst hp; exact one (fun T L X _ t => Jvm.Free.XS.dmulS X.here K.1 rfl (hb K.2.2.2.1 hd) rfl hn rfl) q
theorem ddiv (K : Cx Z own nm bytes ml ret p s m meth c) {x y : UInt64} (hd : decode bytes pc = .ok (.ddiv, 1)) (hn : Jvm.Free.Fl.NoNaN64 (FP.ddiv x y)) (hp : pc + 1 = pc') (q : Go p l e R s m args below meth c n0 h ce sl (mkF m pc' Ls (.double (FP.ddiv x y) :: S)) Q) : Go p l e R s m args below meth c n0 h ce sl (mkF m pc Ls (.double y :: .double x :: S)) Q := by
  subst hp; exact one (fun T L X _ t => Jvm.Free.XS.ddivS X.here K.1 rfl (hb K.2.2.2.1 hd) rfl hn rfl) q
theorem dcmp (K : Cx Z own nm bytes ml ret p s m meth c) {o : CmpOp} {x y : UInt64} (hd : decode bytes pc = .ok (.dcmp o, 1)) (hp : pc + 1 = pc') (q : Go p l e R s m args below meth c n0 h ce sl (mkF m pc' Ls (.int (cmpValue (FP.dcmp x y) o) :: S)) Q) : Go p l e R s m args below meth c n0 h ce sl (mkF m pc Ls (.double y :: .double x :: S)) Q := by
  subst hp; exact one (fun T L X _ t => Jvm.Free.XS.dcmpS X.here K.1 rfl (hb K.2.2.2.1 hd) rfl rfl) q
theorem dup (K : Cx Z own nm bytes ml ret p s m meth c) {x : Value} (hd : decode bytes pc = .ok (.dup, 1)) (hc : x.category = 1) (hp : pc + 1 = pc') (q : Go p l e R s m args below meth c n0 h ce sl (mkF m pc' Ls (x :: x :: S)) Q) : Go p l e R s m args below meth c n0 h ce sl (mkF m pc Ls (x :: S)) Q := by
  subst hp; exact one (fun T L X _ t => Jvm.Free.XS.dup X.here K.1 rfl (hb K.2.2.2.1 hd) rfl hc) q
theorem pop (K : Cx Z own nm bytes ml ret p s m meth c) {x : Value} (hd : decode bytes pc = .ok (.pop, 1)) (hc : x.category = 1) (hp : pc + 1 = pc') (q : Go p l e R s m args below meth c n0 h ce sl (mkF m pc' Ls S) Q) : Go p l e R s m args below meth c n0 h ce sl (mkF m pc Ls (x :: S)) Q := by
  subst hp; exact one (fun T L X _ t => Jvm.Free.XT.pop X.here K.1 rfl (hb K.2.2.2.1 hd) rfl hc) q
theorem dupX1 (K : Cx Z own nm bytes ml ret p s m meth c) {x y : Value} (hd : decode bytes pc = .ok (.dup_x1, 1)) (hc : x.category = 1) (hc' : y.category = 1) (hp : pc + 1 = pc') (q : Go p l e R s m args below meth c n0 h ce sl (mkF m pc' Ls (x :: y :: x :: S)) Q) : Go p l e R s m args below meth c n0 h ce sl (mkF m pc Ls (x :: y :: S)) Q := by
  subst hp; exact one (fun T L X _ t => Jvm.Free.XT.dupX1 X.here K.1 rfl (hb K.2.2.2.1 hd) rfl hc hc') q
theorem dup2 (K : Cx Z own nm bytes ml ret p s m meth c) {x y : Value} (hd : decode bytes pc = .ok (.dup2, 1)) (hc : x.category = 1) (hc' : y.category = 1) (hp : pc + 1 = pc') (q : Go p l e R s m args below meth c n0 h ce sl (mkF m pc' Ls (x :: y :: x :: y :: S)) Q) : Go p l e R s m args below meth c n0 h ce sl (mkF m pc Ls (x :: y :: S)) Q := by
  subst hp; exact one (fun T L X _ t => Jvm.Free.XT.dup2 X.here K.1 rfl (hb K.2.2.2.1 hd) rfl hc hc') q
theorem dup2L (K : Cx Z own nm bytes ml ret p s m meth c) {x : Int64} (hd : decode bytes pc = .ok (.dup2, 1)) (hp : pc + 1 = pc') (q : Go p l e R s m args below meth c n0 h ce sl (mkF m pc' Ls (.long x :: .long x :: S)) Q) : Go p l e R s m args below meth c n0 h ce sl (mkF m pc Ls (.long x :: S)) Q := by
  subst hp; exact one (fun T L X _ t => Jvm.Free.XT.dup2L X.here K.1 rfl (hb K.2.2.2.1 hd) rfl) q
theorem goto' (K : Cx Z own nm bytes ml ret p s m meth c) {o : Int} (hd : decode bytes pc = .ok (.goto o, 3)) (ho : 0 ≤ (pc : Int) + o) (hp : ((pc : Int) + o).toNat = pc') (q : Go p l e R s m args below meth c n0 h ce sl (mkF m pc' Ls S) Q) : Go p l e R s m args below meth c n0 h ce sl (mkF m pc Ls S) Q :=
  one (fun T L X _ t => Jvm.Free.XS.goto X.here K.1 rfl rfl (hb K.2.2.2.1 hd) ho hp) q
theorem ifY (K : Cx Z own nm bytes ml ret p s m meth c) {cd : ClassFile.Cond} {o : Int} {x : Int32} (hd : decode bytes pc = .ok (.ifCond cd o, 3)) (hc : ifCond.holds cd x = true) (ho : 0 ≤ (pc : Int) + o) (hp : ((pc : Int) + o).toNat = pc') (q : Go p l e R s m args below meth c n0 h ce sl (mkF m pc' Ls S) Q) : Go p l e R s m args below meth c n0 h ce sl (mkF m pc Ls (.int x :: S)) Q :=
  one (fun T L X _ t => Jvm.Free.XS.ifYes X.here K.1 rfl rfl (hb K.2.2.2.1 hd) rfl hc ho hp) q
theorem ifN (K : Cx Z own nm bytes ml ret p s m meth c) {cd : ClassFile.Cond} {o : Int} {x : Int32} (hd : decode bytes pc = .ok (.ifCond cd o, 3)) (hc : ifCond.holds cd x = false) (hp : pc + 3 = pc') (q : Go p l e R s m args below meth c n0 h ce sl (mkF m pc' Ls S) Q) : Go p l e R s m args below meth c n0 h ce sl (mkF m pc Ls (.int x :: S)) Q := by
  subst hp; exact one (fun T L X _ t => Jvm.Free.XS.ifNo X.here K.1 rfl (hb K.2.2.2.1 hd) rfl hc) q
theorem icY (K : Cx Z own nm bytes ml ret p s m meth c) {cd : ClassFile.Cond} {o : Int} {x y : Int32} (hd : decode bytes pc = .ok (.if_icmp cd o, 3)) (hc : if_icmp.holds cd x y = true) (ho : 0 ≤ (pc : Int) + o) (hp : ((pc : Int) + o).toNat = pc') (q : Go p l e R s m args below meth c n0 h ce sl (mkF m pc' Ls S) Q) : Go p l e R s m args below meth c n0 h ce sl (mkF m pc Ls (.int y :: .int x :: S)) Q :=
  one (fun T L X _ t => Jvm.Free.XS.icmpYes X.here K.1 rfl rfl (hb K.2.2.2.1 hd) rfl hc ho hp) q
theorem icN (K : Cx Z own nm bytes ml ret p s m meth c) {cd : ClassFile.Cond} {o : Int} {x y : Int32} (hd : decode bytes pc = .ok (.if_icmp cd o, 3)) (hc : if_icmp.holds cd x y = false) (hp : pc + 3 = pc') (q : Go p l e R s m args below meth c n0 h ce sl (mkF m pc' Ls S) Q) : Go p l e R s m args below meth c n0 h ce sl (mkF m pc Ls (.int y :: .int x :: S)) Q := by
  subst hp; exact one (fun T L X _ t => Jvm.Free.XS.icmpNo X.here K.1 rfl (hb K.2.2.2.1 hd) rfl hc) q
theorem nullY (K : Cx Z own nm bytes ml ret p s m meth c) {o : Int} (hd : decode bytes pc = .ok (.ifnull o, 3)) (ho : 0 ≤ (pc : Int) + o) (hp : ((pc : Int) + o).toNat = pc') (q : Go p l e R s m args below meth c n0 h ce sl (mkF m pc' Ls S) Q) : Go p l e R s m args below meth c n0 h ce sl (mkF m pc Ls (.null :: S)) Q :=
  one (fun T L X _ t => Jvm.Free.XS.ifnullYes X.here K.1 rfl rfl (hb K.2.2.2.1 hd) rfl ho hp) q
theorem nullN (K : Cx Z own nm bytes ml ret p s m meth c) {o : Int} {b : Addr} (hd : decode bytes pc = .ok (.ifnull o, 3)) (hp : pc + 3 = pc') (q : Go p l e R s m args below meth c n0 h ce sl (mkF m pc' Ls S) Q) : Go p l e R s m args below meth c n0 h ce sl (mkF m pc Ls (.ref b :: S)) Q := by
  subst hp; exact one (fun T L X _ t => Jvm.Free.XS.ifnullNo X.here K.1 rfl (hb K.2.2.2.1 hd) rfl) q
theorem nonnullY (K : Cx Z own nm bytes ml ret p s m meth c) {o : Int} {b : Addr} (hd : decode bytes pc = .ok (.ifnonnull o, 3)) (ho : 0 ≤ (pc : Int) + o) (hp : ((pc : Int) + o).toNat = pc') (q : Go p l e R s m args below meth c n0 h ce sl (mkF m pc' Ls S) Q) : Go p l e R s m args below meth c n0 h ce sl (mkF m pc Ls (.ref b :: S)) Q :=
  one (fun T L X _ t => Jvm.Free.XT.ifnonnullYes X.here K.1 rfl rfl (hb K.2.2.2.1 hd) rfl ho hp) q
theorem nonnullN (K : Cx Z own nm bytes ml ret p s m meth c) {o : Int} (hd : decode bytes pc = .ok (.ifnonnull o, 3)) (hp : pc + 3 = pc') (q : Go p l e R s m args below meth c n0 h ce sl (mkF m pc' Ls S) Q) : Go p l e R s m args below meth c n0 h ce sl (mkF m pc Ls (.null :: S)) Q := by
  subst hp; exact one (fun T L X _ t => Jvm.Free.XT.ifnonnullNo X.here K.1 rfl (hb K.2.2.2.1 hd) rfl) q
theorem acY (K : Cx Z own nm bytes ml ret p s m meth c) {cd : ClassFile.ACond} {o : Int} {x y : Value} (hd : decode bytes pc = .ok (.if_acmp cd o, 3)) (hx : x.isRef = true) (hy : y.isRef = true) (hc : XT.acmp cd x y = true) (ho : 0 ≤ (pc : Int) + o) (hp : ((pc : Int) + o).toNat = pc') (q : Go p l e R s m args below meth c n0 h ce sl (mkF m pc' Ls S) Q) : Go p l e R s m args below meth c n0 h ce sl (mkF m pc Ls (y :: x :: S)) Q :=
  one (fun T L X _ t => Jvm.Free.XT.acmpYes X.here K.1 rfl rfl (hb K.2.2.2.1 hd) rfl hx hy hc ho hp) q
theorem acN (K : Cx Z own nm bytes ml ret p s m meth c) {cd : ClassFile.ACond} {o : Int} {x y : Value} (hd : decode bytes pc = .ok (.if_acmp cd o, 3)) (hx : x.isRef = true) (hy : y.isRef = true) (hc : XT.acmp cd x y = false) (hp : pc + 3 = pc') (q : Go p l e R s m args below meth c n0 h ce sl (mkF m pc' Ls S) Q) : Go p l e R s m args below meth c n0 h ce sl (mkF m pc Ls (y :: x :: S)) Q := by
  subst hp; exact one (fun T L X _ t => Jvm.Free.XT.acmpNo X.here K.1 rfl (hb K.2.2.2.1 hd) rfl hx hy hc) q
theorem ldcI (K : Cx Z own nm bytes ml ret p s m meth c) {i : Nat} {v : Int32} (w : (Cond.constant own i v).before a0 Z = true) (hd : decode bytes pc = .ok (.ldc i, 2)) (hp : pc + 2 = pc') (q : Go p l e R s m args below meth c n0 h ce sl (mkF m pc' Ls (.int v :: S)) Q) : Go p l e R s m args below meth c n0 h ce sl (mkF m pc Ls S) Q := by
  subst hp; exact one (fun T L X _ t => X.ldcI K.1 K.2.2.1 (mvT K.2.1 w) rfl (hb K.2.2.2.1 hd)) q
theorem ldcWI (K : Cx Z own nm bytes ml ret p s m meth c) {i : Nat} {v : Int32} (w : (Cond.constant own i v).before a0 Z = true) (hd : decode bytes pc = .ok (.ldc_w i, 3)) (hp : pc + 3 = pc') (q : Go p l e R s m args below meth c n0 h ce sl (mkF m pc' Ls (.int v :: S)) Q) : Go p l e R s m args below meth c n0 h ce sl (mkF m pc Ls S) Q := by
  subst hp; exact one (fun T L X _ t => X.ldcWI K.1 K.2.2.1 (mvT K.2.1 w) rfl (hb K.2.2.2.1 hd)) q
theorem ldc2J (K : Cx Z own nm bytes ml ret p s m meth c) {i : Nat} {v : Int64} (w : (Cond.constantLong own i v).before a0 Z = true) (hd : decode bytes pc = .ok (.ldc2_w i, 3)) (hp : pc + 3 = pc') (q : Go p l e R s m args below meth c n0 h ce sl (mkF m pc' Ls (.long v :: S)) Q) : Go p l e R s m args below meth c n0 h ce sl (mkF m pc Ls S) Q := by
  subst hp; exact one (fun T L X _ t => X.ldc2J K.1 K.2.2.1 (mvT K.2.1 w) rfl (hb K.2.2.2.1 hd)) q
theorem ldc2D (K : Cx Z own nm bytes ml ret p s m meth c) {i : Nat} {v : UInt64} (w : (Cond.constantDouble own i v).before a0 Z = true) (hd : decode bytes pc = .ok (.ldc2_w i, 3)) (hp : pc + 3 = pc') (q : Go p l e R s m args below meth c n0 h ce sl (mkF m pc' Ls (.double v :: S)) Q) : Go p l e R s m args below meth c n0 h ce sl (mkF m pc Ls S) Q := by
  subst hp; exact one (fun T L X _ t => X.ldc2DoubleC K.1 K.2.2.1 (mvT (args := args) K.2.1 w) (g := mkF m pc Ls S) rfl (hb K.2.2.2.1 hd) t) q
theorem getf (K : Cx Z own nm bytes ml ret p s m meth c) {i : Nat} {R0 O n d : String} {a : Addr} {v : Value} (w : (Cond.fieldLink own i R0 n d).before a0 Z = true) (via : Via Z R0 O n d) (F : Fld Z h a O n d v) (hd : decode bytes pc = .ok (.getfield i, 3)) (hp : pc + 3 = pc') (q : Go p l e R s m args below meth c n0 h ce sl (mkF m pc' Ls (v :: S)) Q) : Go p l e R s m args below meth c n0 h ce sl (mkF m pc Ls (.ref a :: S)) Q := by
  subst hp; exact oneT (fun T L X eT => getF X K.1 K.2.1 K.2.2.1 (host := "") (Or.inl w) via eT F rfl rfl (hb K.2.2.2.1 hd)) q
theorem getfN (K : Cx Z own nm bytes ml ret p s m meth c) {i : Nat} {R0 O n d host : String} {a : Addr} {v : Value} (w : (Cond.fieldLinkNest own i R0 n d host).before a0 Z = true) (via : Via Z R0 O n d) (F : Fld Z h a O n d v) (hd : decode bytes pc = .ok (.getfield i, 3)) (hp : pc + 3 = pc') (q : Go p l e R s m args below meth c n0 h ce sl (mkF m pc' Ls (v :: S)) Q) : Go p l e R s m args below meth c n0 h ce sl (mkF m pc Ls (.ref a :: S)) Q := by
  subst hp; exact oneT (fun T L X eT => getF X K.1 K.2.1 K.2.2.1 (Or.inr w) via eT F rfl rfl (hb K.2.2.2.1 hd)) q
theorem getfR (K : Cx Z own nm bytes ml ret p s m meth c) {i : Nat} {O n d : String} {a : Addr} {v : Value} (w : (Cond.fieldRef own i O n d).before a0 Z = true) (F : Fld Z h a O n d v) (hd : decode bytes pc = .ok (.getfield i, 3)) (hp : pc + 3 = pc') (q : Go p l e R s m args below meth c n0 h ce sl (mkF m pc' Ls (v :: S)) Q) : Go p l e R s m args below meth c n0 h ce sl (mkF m pc Ls (.ref a :: S)) Q := by
  subst hp
  refine one (fun T L X eT t k => ?_) q
  have hT : Z.Warmed39 T.vm := wtrans K.2.1 X.warmed
  obtain ⟨c1, k1, i1, f1, g1, g2⟩ := Cond.fieldRef_spec (s := Z.setVm T.vm) (cur := m.cls) (by show T.vm.findClass own = _; rw [X.warmed.alike.findClass]; exact K.2.2.1) (Cond.fieldRef_warmed39 hT w)
  obtain ⟨cell, cf, kf, i2, f2, h1, h2, h3, h4, -, -, h7⟩ := F
  obtain ⟨k', hi, -⟩ := State.fieldFound?_setVm (s := Z) hT.alike h2
  cases g1.symm.trans hi
  exact (X.getfieldR K.1 (g := mkF m pc Ls (.ref a :: S)) rfl g2 h3 rfl (by rw [eT]; exact h1) h4 h7 (hb K.2.2.2.1 hd) (Steps.refl _)).trans k
theorem gets (K : Cx Z own nm bytes ml ret p s m meth c) {i : Nat} {R0 O n d : String} {v : Value} (w : (Cond.fieldLink own i R0 n d).before a0 Z = true) (via : Via Z R0 O n d) (F : Sta Z h O n d v) (hd : decode bytes pc = .ok (.getstatic i, 3)) (hp : pc + 3 = pc') (q : Go p l e R s m args below meth c n0 h ce sl (mkF m pc' Ls (v :: S)) Q) : Go p l e R s m args below meth c n0 h ce sl (mkF m pc Ls S) Q := by
  subst hp; exact oneT (fun T L X eT => getS X K.1 K.2.1 K.2.2.1 (host := "") w via eT F rfl (hb K.2.2.2.1 hd)) q
theorem putf (K : Cx Z own nm bytes ml ret p s m meth c) {i kk : Nat} {R0 O n d C : String} {ty : FieldType} {a : Addr} {v old : Value} (w : (Cond.fieldLink own i R0 n d).before a0 Z = true) (via : Via Z R0 O n d) (F : Fld Z h a O n d old) (E : Exa Z h a C) (L : (Cond.lays C O n d).before a0 Z = true ∨ ((Cond.laysFinal C O n d).before a0 Z = true ∧ own = O ∧ nm = "<init>")) (wi : (Cond.instantiable C kk).before a0 Z = true) (hty : parseFieldDescriptor d = some ty) (hn : narrow ty v = v) (hf : fits ty v = true) (ga : n0 ≤ a) (hd : decode bytes pc = .ok (.putfield i, 3)) (hp : pc + 3 = pc') (q : ∀ h', Wr h h' a (Jvm.RoadKit.slotOf Z O n d) v → Go p l e R s m args below meth c n0 h' ce sl (mkF m pc' Ls S) Q) : Go p l e R s m args below meth c n0 h ce sl (mkF m pc Ls (v :: .ref a :: S)) Q := by
  subst hp
  intro T L0 X N eT
  obtain ⟨T', h', X', e', W, st⟩ := putF X K.1 K.2.1 K.2.2.1 (host := "") (Or.inl w) via eT F E (L.imp id fun ⟨a, b, c⟩ => ⟨a, b, K.2.2.2.2.2.2.2.trans c⟩) wi hty hn hf (g := mkF m pc Ls (v :: .ref a :: S)) rfl rfl (hb K.2.2.2.1 hd)
  obtain ⟨s₂, u, L', a1, r⟩ := q h' W T' _ X' (Fr.snoc X' N ga) e'
  exact ⟨s₂, u, L', st _ a1, r⟩
theorem newObj (K : Cx Z own nm bytes ml ret p s m meth c) {i n : Nat} {C : String} (w : (Cond.classLink own i C).before a0 Z = true) (wi : (Cond.instantiable C n).before a0 Z = true) (wz : (Cond.initialized C).before a0 Z = true) (hd : decode bytes pc = .ok (.new i, 3)) (hc : ce + 1 ≤ R.cells) (hl : sl + n ≤ R.slots) (hp : pc + 3 = pc') (q : ∀ h' x, x = h.size → Ext h h' → Exa Z h' x C → (∀ {O nm d : String} {ty : FieldType}, Laid Z a0 C O nm d → parseFieldDescriptor d = some ty → Fld Z h' x O nm d (defaultValue ty)) → Go p l e R s m args below meth c n0 h' (ce + 1) (sl + n) (mkF m pc' Ls (.ref x :: S)) Q) : Go p l e R s m args below meth c n0 h ce sl (mkF m pc Ls S) Q := by
  subst hp
  intro T L0 X N eT
  obtain ⟨T', h', X', e', E, A, D, -, st⟩ := newO X K.1 K.2.1 K.2.2.1 w wi wz eT (g := mkF m pc Ls S) rfl (hb K.2.2.2.1 hd) hc hl
  obtain ⟨s₂, u, L', a1, r⟩ := q h' h.size rfl E A D T' _ X' N e'
  exact ⟨s₂, u, L', st _ a1, r⟩
theorem initObj (K : Cx Z own nm bytes ml ret p s m meth c) {i : Nat} {a : Addr} (w1 : (Cond.methodLink own i Lib.objectInit).before a0 Z = true) (w2 : (Cond.instanceMethod Lib.objectInit).before a0 Z = true) (w3 : (Cond.code Lib.objectInit ⟨#[0xb1]⟩ 1 none).before a0 Z = true) (hd : decode bytes pc = .ok (.invokespecial i, 3)) (hz : Ls.size = ml) (hf : 1 ≤ R.frames) (hW : (S.map fun v => v.category).sum + 12 ≤ R.locals) (hp : pc + 3 = pc') (q : Go p l e R s m args below meth c n0 h ce sl (mkF m pc' Ls S) Q) : Go p l e R s m args below meth c n0 h ce sl (mkF m pc Ls (.ref a :: S)) Q := by
  subst hp; exact oneT (fun T L X eT => initO X K.1 K.2.1 K.2.2.1 w1 w2 w3 eT rfl (hz.trans K.2.2.2.2.1.symm) rfl (hb K.2.2.2.1 hd) hf (W := (S.map fun v => v.category).sum) (by show 2 * 0 + _ ≤ _; omega) hW) q
/-- a private method's own 'selects' -/
theorem priv_sel {s : State} {args : Array Value} {y : MethodName} {kk : Nat} (wi : (Cond.instantiable y.cls kk).before args s = true) (hpriv : s.PrivateAt y) (hinst : (Cond.instanceMethod y).before args s = true) (hy : y.cls ≠ "java/lang/invoke/MethodHandle" ∧ y.cls ≠ "java/lang/invoke/VarHandle") : (Cond.selects y.cls y y).before args s = true := by
  obtain ⟨c2, k2, i1, i2, i3, i4⟩ := Cond.instantiable_spec wi
  exact selects_self_of_private i1 i2 (Bool.or_eq_false_iff.mp i4.1).1 hpriv hinst hy
/-! calls -/
theorem back {W len : Nat} {y : MethodName} {by' : ByteArray} {ml' : Nat} {ret' : Option FieldType} {rm : Room} {as' : Array Value} {Q' : Option Value → Heap → Prop} (K : Cx Z own nm bytes ml ret p s m meth c) (C : Ctr l Z y by' ml' ret' [] rm n0 as' h Q') (wc : (Cond.code y by' ml' ret').before a0 Z = true) (wz : (Cond.initialized y.cls).before a0 Z = true) (hf : rm.frames + 1 ≤ R.frames) (hl : W + (ml' + 11) + rm.locals ≤ R.locals) :
    Back l R p e below s args y len W (fun A a => a = as' ∧ A.U.heap = h ∧ A.cells + rm.cells ≤ R.cells ∧ A.slots + rm.slots ≤ R.slots) (fun A _ v B => ∃ L, (Q' v B.U.heap ∧ Fr n0 L) ∧ B.locs = A.locs ++ L ∧ B.cells = A.cells + rm.cells ∧ B.slots = A.slots + rm.slots) :=
  backOf (Q := fun v h L => Q' v h ∧ Fr n0 L) C K.2.1 wc wz hf hl
theorem callStatic (K : Cx Z own nm bytes ml ret p s m meth c) {i : Nat} {y : MethodName} {by' : ByteArray} {ml' : Nat} {ret' : Option FieldType} {rm : Room} {Q' : Option Value → Heap → Prop}  {argsL : List Value} (w1 : (Cond.methodLink own i y).before a0 Z = true) (w2 : (Cond.static y).before a0 Z = true) (wz : (Cond.initialized y.cls).before a0 Z = true) (wc : (Cond.code y by' ml' ret').before a0 Z = true) (hy : y.cls ≠ "java/lang/invoke/MethodHandle" ∧ y.cls ≠ "java/lang/invoke/VarHandle") (Cc : Ctr l Z y by' ml' ret' [] rm n0 argsL.toArray h Q') (hlen : ∀ sig, parseMethodDescriptor y.desc = some sig → argsL.length = sig.parameters.length) (hd : decode bytes pc = .ok (.invokestatic i, 3)) (hz : Ls.size = ml) (hf : rm.frames + 1 ≤ R.frames) (hW : (S.map fun v => v.category).sum + (ml' + 11) + rm.locals ≤ R.locals) (hc : ce + rm.cells ≤ R.cells) (hsl : sl + rm.slots ≤ R.slots) {st : List Value} (hst : st = (argsL.reverse ++ S)) (hp : pc + 3 = pc') (q : ∀ v h', Q' v h' → Go p l e R s m args below meth c n0 h' (ce + rm.cells) (sl + rm.slots) (mkF m pc' Ls (v.toList ++ S)) Q) : Go p l e R s m args below meth c n0 h ce sl (mkF m pc Ls st) Q := by
  subst hp hst
  intro T L0 X N eT
  obtain ⟨v, _, ⟨T', L1, k1, n1⟩, -, X', ⟨Lc, hQ, l', y', z'⟩, st'⟩ := Jvm.LawKit.callS X K.1 K.2.2.1 (mvT K.2.1 w1) (mvT K.2.1 w2) (mvT K.2.1 wz) (mvT K.2.1 wc) hy (back (W := (S.map fun v => v.category).sum) K Cc wc wz hf hW) (g := mkF m pc Ls (argsL.reverse ++ S)) rfl (hz.trans K.2.2.2.2.1.symm) (argsL := argsL) (rest := S) hlen rfl (by show 2 * 0 + _ ≤ _; omega) (hb K.2.2.2.1 hd) (fun _ _ => ⟨rfl, eT, hc, hsl⟩)
  dsimp only [Pt.U, Pt.locs, Pt.cells, Pt.slots] at X' l' y' z' st'
  subst l' y' z'
  obtain ⟨s₂, u, L', a1, r⟩ := q v _ hQ.1 T' _ X' (Fr.app N hQ.2) rfl
  exact ⟨s₂, u, L', st' _ a1, r⟩
theorem callInit (K : Cx Z own nm bytes ml ret p s m meth c) {i : Nat} {y : MethodName} {by' : ByteArray} {ml' : Nat} {ret' : Option FieldType} {rm : Room} {Q' : Option Value → Heap → Prop} {b : Addr} {argsL : List Value} (hy1 : y.name = "<init>") (w1 : (Cond.methodLink own i y).before a0 Z = true) (w2 : (Cond.instanceMethod y).before a0 Z = true) (wz : (Cond.initialized y.cls).before a0 Z = true) (wc : (Cond.code y by' ml' none).before a0 Z = true) (hr : ret' = none) (hy : y.cls ≠ "java/lang/invoke/MethodHandle" ∧ y.cls ≠ "java/lang/invoke/VarHandle") (Cc : Ctr l Z y by' ml' ret' [] rm n0 (.ref b :: argsL).toArray h Q') (hlen : ∀ sig, parseMethodDescriptor y.desc = some sig → argsL.length = sig.parameters.length) (hd : decode bytes pc = .ok (.invokespecial i, 3)) (hz : Ls.size = ml) (hf : rm.frames + 1 ≤ R.frames) (hW : (S.map fun v => v.category).sum + (ml' + 11) + rm.locals ≤ R.locals) (hc : ce + rm.cells ≤ R.cells) (hsl : sl + rm.slots ≤ R.slots) {st : List Value} (hst : st = (argsL.reverse ++ .ref b :: S)) (hp : pc + 3 = pc') (q : ∀ v h', Q' v h' → Go p l e R s m args below meth c n0 h' (ce + rm.cells) (sl + rm.slots) (mkF m pc' Ls (v.toList ++ S)) Q) : Go p l e R s m args below meth c n0 h ce sl (mkF m pc Ls st) Q := by
  subst hp hst
  intro T L0 X N eT
  subst hr
  obtain ⟨v, _, ⟨T', L1, k1, n1⟩, -, X', ⟨Lc, hQ, l', y', z'⟩, st'⟩ := X.specialBack K.1 hy1 K.2.2.1 (mvT K.2.1 w1) (mvT K.2.1 w2) (mvT K.2.1 wc) hy (back (W := (S.map fun v => v.category).sum) K Cc wc wz hf hW) (g := mkF m pc Ls (argsL.reverse ++ .ref b :: S)) rfl (hz.trans K.2.2.2.2.1.symm) (Steps.refl _) (a := b) (argsL := argsL) (rest := S) hlen rfl (by show 2 * 0 + _ ≤ _; omega) (hb K.2.2.2.1 hd) (fun _ _ => ⟨rfl, eT, hc, hsl⟩)
  dsimp only [Pt.U, Pt.locs, Pt.cells, Pt.slots] at X' l' y' z' st'
  subst l' y' z'
  obtain ⟨s₂, u, L', a1, r⟩ := q v _ hQ.1 T' _ X' (Fr.app N hQ.2) rfl
  exact ⟨s₂, u, L', st'.trans a1, r⟩
theorem callInitNest (K : Cx Z own nm bytes ml ret p s m meth c) {i : Nat} {y : MethodName} {by' : ByteArray} {ml' : Nat} {ret' : Option FieldType} {rm : Room} {Q' : Option Value → Heap → Prop} {b : Addr} {argsL : List Value} {host : String} (hy1 : y.name = "<init>") (w1 : (Cond.methodLinkNest own i y host).before a0 Z = true) (w2 : (Cond.instanceMethod y).before a0 Z = true) (wz : (Cond.initialized y.cls).before a0 Z = true) (wc : (Cond.code y by' ml' none).before a0 Z = true) (hr : ret' = none) (hy : y.cls ≠ "java/lang/invoke/MethodHandle" ∧ y.cls ≠ "java/lang/invoke/VarHandle") (Cc : Ctr l Z y by' ml' ret' [] rm n0 (.ref b :: argsL).toArray h Q') (hlen : ∀ sig, parseMethodDescriptor y.desc = some sig → argsL.length = sig.parameters.length) (hd : decode bytes pc = .ok (.invokespecial i, 3)) (hz : Ls.size = ml) (hf : rm.frames + 1 ≤ R.frames) (hW : (S.map fun v => v.category).sum + (ml' + 11) + rm.locals ≤ R.locals) (hc : ce + rm.cells ≤ R.cells) (hsl : sl + rm.slots ≤ R.slots) {st : List Value} (hst : st = (argsL.reverse ++ .ref b :: S)) (hp : pc + 3 = pc') (q : ∀ v h', Q' v h' → Go p l e R s m args below meth c n0 h' (ce + rm.cells) (sl + rm.slots) (mkF m pc' Ls (v.toList ++ S)) Q) : Go p l e R s m args below meth c n0 h ce sl (mkF m pc Ls st) Q := by
  subst hp hst
  intro T L0 X N eT
  subst hr
  obtain ⟨v, _, ⟨T', L1, k1, n1⟩, -, X', ⟨Lc, hQ, l', y', z'⟩, st'⟩ := X.specialBackNest K.1 hy1 K.2.2.1 (Cond.methodLinkNest_wide K.2.1 w1 :) (mvT K.2.1 w2) (mvT K.2.1 wc) hy (back (W := (S.map fun v => v.category).sum) K Cc wc wz hf hW) (g := mkF m pc Ls (argsL.reverse ++ .ref b :: S)) rfl (hz.trans K.2.2.2.2.1.symm) (Steps.refl _) (a := b) (argsL := argsL) (rest := S) hlen rfl (by show 2 * 0 + _ ≤ _; omega) (hb K.2.2.2.1 hd) (fun _ _ => ⟨rfl, eT, hc, hsl⟩)
  dsimp only [Pt.U, Pt.locs, Pt.cells, Pt.slots] at X' l' y' z' st'
  subst l' y' z'
  obtain ⟨s₂, u, L', a1, r⟩ := q v _ hQ.1 T' _ X' (Fr.app N hQ.2) rfl
  exact ⟨s₂, u, L', st'.trans a1, r⟩
theorem callVirt (K : Cx Z own nm bytes ml ret p s m meth c) {i : Nat} {y : MethodName} {by' : ByteArray} {ml' : Nat} {ret' : Option FieldType} {rm : Room} {Q' : Option Value → Heap → Prop} {b : Addr} {argsL : List Value} {C : String} (w1 : (Cond.methodLink own i y).before a0 Z = true) (w2 : (Cond.declares y).before a0 Z = true) (w3 : (Cond.selects C y y).before a0 Z = true) (w4 : (Cond.instanceMethod y).before a0 Z = true) (wz : (Cond.initialized y.cls).before a0 Z = true) (wc : (Cond.code y by' ml' ret').before a0 Z = true) (hy : y.cls ≠ "java/lang/invoke/MethodHandle" ∧ y.cls ≠ "java/lang/invoke/VarHandle") (E : Exa Z h b C) (Cc : Ctr l Z y by' ml' ret' [] rm n0 (.ref b :: argsL).toArray h Q') (hlen : ∀ sig, parseMethodDescriptor y.desc = some sig → argsL.length = sig.parameters.length) (hd : decode bytes pc = .ok (.invokevirtual i, 3)) (hz : Ls.size = ml) (hf : rm.frames + 1 ≤ R.frames) (hW : (S.map fun v => v.category).sum + (ml' + 11) + rm.locals ≤ R.locals) (hc : ce + rm.cells ≤ R.cells) (hsl : sl + rm.slots ≤ R.slots) {st : List Value} (hst : st = (argsL.reverse ++ .ref b :: S)) (hp : pc + 3 = pc') (q : ∀ v h', Q' v h' → Go p l e R s m args below meth c n0 h' (ce + rm.cells) (sl + rm.slots) (mkF m pc' Ls (v.toList ++ S)) Q) : Go p l e R s m args below meth c n0 h ce sl (mkF m pc Ls st) Q := by
  subst hp hst
  intro T L0 X N eT
  obtain ⟨cq, kq, qa, qb, qc⟩ := isOf K.2.1 eT E
  obtain ⟨v, _, ⟨T', L1, k1, n1⟩, -, X', ⟨Lc, hQ, l', y', z'⟩, st'⟩ := X.virtualBack K.1 (y := y) (z := y) K.2.2.1 (mvT K.2.1 w1) (mvT K.2.1 w2) (notFace_of_selects (args := #[]) (mvT K.2.1 w3)) (mvT K.2.1 w3) (mvT K.2.1 w4) hy (back (W := (S.map fun v => v.category).sum) K Cc wc wz hf hW) qa qc (g := mkF m pc Ls (argsL.reverse ++ .ref b :: S)) rfl (hz.trans K.2.2.2.2.1.symm) (Steps.refl _) (argsL := argsL) (rest := S) hlen rfl (by show 2 * 0 + _ ≤ _; omega) (hb K.2.2.2.1 hd) (fun _ _ => ⟨rfl, eT, hc, hsl⟩)
  dsimp only [Pt.U, Pt.locs, Pt.cells, Pt.slots] at X' l' y' z' st'
  subst l' y' z'
  obtain ⟨s₂, u, L', a1, r⟩ := q v _ hQ.1 T' _ X' (Fr.app N hQ.2) rfl
  exact ⟨s₂, u, L', st'.trans a1, r⟩
theorem callFace (K : Cx Z own nm bytes ml ret p s m meth c) {i cnt : Nat} {y : MethodName} {by' : ByteArray} {ml' : Nat} {ret' : Option FieldType} {rm : Room} {Q' : Option Value → Heap → Prop} {b : Addr} {argsL : List Value} {z : MethodName} {C : String} (w1 : (Cond.methodLink own i y).before a0 Z = true) (w2 : (Cond.declares y).before a0 Z = true) (w5 : (Cond.interfaceMethod y.cls y.cls y.name y.desc).before a0 Z = true) (k5 : ((Cond.interfaceMethod y.cls y.cls y.name y.desc).onTables && (Cond.interfaceMethod y.cls y.cls y.name y.desc).keepsFace) = true) (w3 : (Cond.selects C y z).before a0 Z = true) (w4 : (Cond.instanceMethod z).before a0 Z = true) (w6 : (Cond.publicMethod z).before a0 Z = true) (w7 : (Cond.unhidden C y.name y.desc).before a0 Z = true) (w8 : (Cond.castable C y.cls).before a0 Z = true) (wz : (Cond.initialized z.cls).before a0 Z = true) (wc : (Cond.code z by' ml' ret').before a0 Z = true) (hy : y.cls ≠ "java/lang/invoke/MethodHandle" ∧ y.cls ≠ "java/lang/invoke/VarHandle") (E : Exa Z h b C) (Cc : Ctr l Z z by' ml' ret' [] rm n0 (.ref b :: argsL).toArray h Q') (hlen : ∀ sig, parseMethodDescriptor y.desc = some sig → argsL.length = sig.parameters.length) (hd : decode bytes pc = .ok (.invokeinterface i cnt, 5)) (hz : Ls.size = ml) (hf : rm.frames + 1 ≤ R.frames) (hW : (S.map fun v => v.category).sum + (ml' + 11) + rm.locals ≤ R.locals) (hc : ce + rm.cells ≤ R.cells) (hsl : sl + rm.slots ≤ R.slots) {st : List Value} (hst : st = (argsL.reverse ++ .ref b :: S)) (hp : pc + 5 = pc') (q : ∀ v h', Q' v h' → Go p l e R s m args below meth c n0 h' (ce + rm.cells) (sl + rm.slots) (mkF m pc' Ls (v.toList ++ S)) Q) : Go p l e R s m args below meth c n0 h ce sl (mkF m pc Ls st) Q := by
  subst hp hst
  intro T L0 X N eT
  obtain ⟨cq, kq, qa, qb, qc⟩ := isOf K.2.1 eT E
  obtain ⟨v, _, ⟨T', L1, k1, n1⟩, -, X', ⟨Lc, hQ, l', y', z'⟩, st'⟩ := X.interfaceBack K.1 (xi := y) (y := z) K.2.2.1 (mvT K.2.1 w1) (mvT K.2.1 w2) (mvT K.2.1 w5 k5) (mvT K.2.1 w3) (mvT K.2.1 w4) (mvT K.2.1 w6) (mvT K.2.1 w7) (mvT K.2.1 w8) hy (back (W := (S.map fun v => v.category).sum) K Cc wc wz hf hW) qa qb qc (g := mkF m pc Ls (argsL.reverse ++ .ref b :: S)) rfl (hz.trans K.2.2.2.2.1.symm) (Steps.refl _) (argsL := argsL) (rest := S) hlen rfl (by show 2 * 0 + _ ≤ _; omega) (hb K.2.2.2.1 hd) (fun _ _ => ⟨rfl, eT, hc, hsl⟩)
  dsimp only [Pt.U, Pt.locs, Pt.cells, Pt.slots] at X' l' y' z' st'
  subst l' y' z'
  obtain ⟨s₂, u, L', a1, r⟩ := q v _ hQ.1 T' _ X' (Fr.app N hQ.2) rfl
  exact ⟨s₂, u, L', st'.trans a1, r⟩
theorem callPriv (K : Cx Z own nm bytes ml ret p s m meth c) {i : Nat} {y : MethodName} {by' : ByteArray} {ml' : Nat} {ret' : Option FieldType} {rm : Room} {Q' : Option Value → Heap → Prop} {b : Addr} {argsL : List Value} {C : String} {kk : Nat} (w1 : (Cond.methodLink own i y).before a0 Z = true) (w2 : (Cond.instanceMethod y).before a0 Z = true) (w3 : (Cond.privateMethod y).before a0 Z = true) (w5 : (Cond.instantiable y.cls kk).before a0 Z = true) (wz : (Cond.initialized y.cls).before a0 Z = true) (wc : (Cond.code y by' ml' ret').before a0 Z = true) (hy : y.cls ≠ "java/lang/invoke/MethodHandle" ∧ y.cls ≠ "java/lang/invoke/VarHandle") (E : Exa Z h b C) (Cc : Ctr l Z y by' ml' ret' [] rm n0 (.ref b :: argsL).toArray h Q') (hlen : ∀ sig, parseMethodDescriptor y.desc = some sig → argsL.length = sig.parameters.length) (hd : decode bytes pc = .ok (.invokevirtual i, 3)) (hz : Ls.size = ml) (hf : rm.frames + 1 ≤ R.frames) (hW : (S.map fun v => v.category).sum + (ml' + 11) + rm.locals ≤ R.locals) (hc : ce + rm.cells ≤ R.cells) (hsl : sl + rm.slots ≤ R.slots) {st : List Value} (hst : st = (argsL.reverse ++ .ref b :: S)) (hp : pc + 3 = pc') (q : ∀ v h', Q' v h' → Go p l e R s m args below meth c n0 h' (ce + rm.cells) (sl + rm.slots) (mkF m pc' Ls (v.toList ++ S)) Q) : Go p l e R s m args below meth c n0 h ce sl (mkF m pc Ls st) Q := by
  subst hp hst
  intro T L0 X N eT
  obtain ⟨cell, kc, f1, f2, f3, f4, -⟩ := E
  have hpr : s.PrivateAt y := Cond.privateMethod_at (mvP K.2.1 w3 (args := #[]))
  obtain ⟨v, _, ⟨T', L1, k1, n1⟩, -, X', ⟨Lc, hQ, l', y', z'⟩, st'⟩ := X.privateBack K.1 (y := y) K.2.2.1 (mvT K.2.1 w1) (mvT K.2.1 w2) (priv_sel (mvT K.2.1 w5) hpr (mvT K.2.1 w2) hy) hpr (mvT K.2.1 wc) hy (back (W := (S.map fun v => v.category).sum) K Cc wc wz hf hW) (g := mkF m pc Ls (argsL.reverse ++ .ref b :: S)) rfl (hz.trans K.2.2.2.2.1.symm) (Steps.refl _) (a := b) (by rw [eT]; exact f1) (fun q hq => by rw [hq] at f4; cases f4) (argsL := argsL) (rest := S) hlen rfl (by show 2 * 0 + _ ≤ _; omega) (hb K.2.2.2.1 hd) (fun _ _ => ⟨rfl, eT, hc, hsl⟩)
  dsimp only [Pt.U, Pt.locs, Pt.cells, Pt.slots] at X' l' y' z' st'
  subst l' y' z'
  obtain ⟨s₂, u, L', a1, r⟩ := q v _ hQ.1 T' _ X' (Fr.app N hQ.2) rfl
  exact ⟨s₂, u, L', st'.trans a1, r⟩
theorem retW (K : Cx Z own nm bytes ml ret p s m meth c) {t : FieldType} {w : Value} {i : Instr} (hi : (i = .ireturn ∧ (t = .int ∨ t = .boolean ∨ t = .byte ∨ t = .char ∨ t = .short) ∧ ∃ z, w = .int z) ∨ (i = .lreturn ∧ t = .long ∧ ∃ z, w = .long z) ∨ (i = .dreturn ∧ t = .double ∧ ∃ z, w = .double z) ∨ (i = .freturn ∧ t = .float ∧ ∃ z, w = .float z) ∨ (i = .areturn ∧ t.isReference = true ∧ w.isRef = true)) (hr : ret = some t) (hn : narrow t w = w) (hd : decode bytes pc = .ok (i, 1)) (hc : ce ≤ R.cells) (hsl : sl ≤ R.slots) (q : Q (some w) h) : Go p l e R s m args below meth c n0 h ce sl (mkF m pc Ls (w :: S)) Q := by
  intro T L0 X N eT
  obtain ⟨fs, hl, hrun, hended, hW, hsame⟩ := X.leave (v := some w) (fun q => by rw [K.2.2.2.2.2.1, hr] at q; cases q) K.2.2.2.2.2.2.1
  exact ⟨_, some w, L0, retOut X K.1 (K.2.2.2.2.2.1.trans hr) hn hi (hb K.2.2.2.1 hd) hl, hrun, hended, N, eT ▸ q, ⟨_, rfl⟩, hW, hsame.mono hc hsl⟩
theorem retV (K : Cx Z own nm bytes ml ret p s m meth c) (hr : ret = none) (hd : decode bytes pc = .ok (.return_, 1)) (hc : ce ≤ R.cells) (hsl : sl ≤ R.slots) (q : Q none h) : Go p l e R s m args below meth c n0 h ce sl (mkF m pc Ls []) Q := by
  intro T L0 X N eT
  obtain ⟨fs, hl, hrun, hended, hW, hsame⟩ := X.leave (v := none) (fun _ => rfl) K.2.2.2.2.2.2.1
  exact ⟨_, none, L0, X.returnOut K.1 (K.2.2.2.2.2.1.trans hr) (hb K.2.2.2.1 hd) hl, hrun, hended, N, eT ▸ q, ⟨_, rfl⟩, hW, hsame.mono hc hsl⟩
theorem retI (K : Cx Z own nm bytes ml ret p s m meth c) {z : Int32} (hr : ret = some .int) (hd : decode bytes pc = .ok (.ireturn, 1)) (hc : ce ≤ R.cells) (hsl : sl ≤ R.slots) (q : Q (some (.int z)) h) : Go p l e R s m args below meth c n0 h ce sl (mkF m pc Ls (.int z :: S)) Q := retW K (by exact Or.inl ⟨rfl, Or.inl rfl, _, rfl⟩) hr rfl hd hc hsl q
theorem retL (K : Cx Z own nm bytes ml ret p s m meth c) {z : Int64} (hr : ret = some .long) (hd : decode bytes pc = .ok (.lreturn, 1)) (hc : ce ≤ R.cells) (hsl : sl ≤ R.slots) (q : Q (some (.long z)) h) : Go p l e R s m args below meth c n0 h ce sl (mkF m pc Ls (.long z :: S)) Q := retW K (by exact Or.inr (Or.inl ⟨rfl, rfl, _, rfl⟩)) hr rfl hd hc hsl q
theorem retD (K : Cx Z own nm bytes ml ret p s m meth c) {z : UInt64} (hr : ret = some .double) (hd : decode bytes pc = .ok (.dreturn, 1)) (hc : ce ≤ R.cells) (hsl : sl ≤ R.slots) (q : Q (some (.double z)) h) : Go p l e R s m args below meth c n0 h ce sl (mkF m pc Ls (.double z :: S)) Q := retW K (by exact Or.inr (Or.inr (Or.inl ⟨rfl, rfl, _, rfl⟩))) hr rfl hd hc hsl q
theorem retA (K : Cx Z own nm bytes ml ret p s m meth c) {t : FieldType} {w : Value} (hr : ret = some t) (ht : t.isReference = true) (hw : w.isRef = true) (hd : decode bytes pc = .ok (.areturn, 1)) (hc : ce ≤ R.cells) (hsl : sl ≤ R.slots) (q : Q (some w) h) : Go p l e R s m args below meth c n0 h ce sl (mkF m pc Ls (w :: S)) Q := retW K (Or.inr (Or.inr (Or.inr (Or.inr ⟨rfl, ht, hw⟩)))) hr (by cases t <;> first | rfl | exact absurd ht (by decide)) hd hc hsl q
theorem retB (K : Cx Z own nm bytes ml ret p s m meth c) {t : FieldType} {z : Int32} (hr : ret = some t) (ht : t = .boolean ∨ t = .byte ∨ t = .char ∨ t = .short) (hd : decode bytes pc = .ok (.ireturn, 1)) (hc : ce ≤ R.cells) (hsl : sl ≤ R.slots) (q : Q (some (.int (nar t z))) h) : Go p l e R s m args below meth c n0 h ce sl (mkF m pc Ls (.int z :: S)) Q := by
  intro T L0 X N eT
  obtain ⟨fs, hl, hrun, hended, hW, hsame⟩ := X.leave (v := some (.int (nar t z))) (fun q => by rw [K.2.2.2.2.2.1, hr] at q; cases q) K.2.2.2.2.2.2.1
  exact ⟨_, some (.int (nar t z)), L0, retN X K.1 (t := t) (K.2.2.2.2.2.1.trans hr) ht (hb K.2.2.2.1 hd) hl, hrun, hended, N, eT ▸ q, ⟨_, rfl⟩, hW, hsame.mono hc hsl⟩
end Walk
/-! arrays -/
def Vec (Z : State) (h : Heap) (a : Addr) (ty : FieldType) (xs : List Value) : Prop := ∃ cl : Cell, Arr Z h a cl ty ∧ cl.slots.toList = xs ∧ xs.length < 2147483648
/-- an array of references, with what may lie in it -/
def VecR (Z : State) (h : Heap) (a : Addr) (C : String) (xs : List Value) : Prop := ∃ cl : Cell, Arr Z h a cl (.object C) ∧ cl.slots.toList = xs ∧ xs.length < 2147483648 ∧ Ovr Z cl.cls C
section Vecs
variable {Z : State} {h h' : Heap} {a b : Addr} {ty : FieldType} {xs : List Value} {v : Value} {sl : Nat} {ws : List Addr} {C : String}
theorem Vec.lt (F : Vec Z h a ty xs) : a < h.size := by obtain ⟨c, A, -⟩ := F; exact A.lt
theorem Vec.ext (F : Vec Z h a ty xs) (E : Ext h h') : Vec Z h' a ty xs := by obtain ⟨c, A, r⟩ := F; exact ⟨c, A.ext E, r⟩
theorem Vec.other (F : Vec Z h b ty xs) (W : Wr h h' a sl v) (q : b ≠ a) : Vec Z h' b ty xs := by obtain ⟨c, A, r⟩ := F; exact ⟨c, A.other W q, r⟩
theorem Vec.keep (F : Vec Z h a ty xs) (K : Keep h h' ws) (q : a ∉ ws) : Vec Z h' a ty xs := by obtain ⟨c, A, r⟩ := F; exact ⟨c, ⟨K.2.1 a c A.1 q, A.2⟩, r⟩
theorem Vec.set (F : Vec Z h a ty xs) {i : Nat} (W : Wr h h' a i v) : Vec Z h' a ty (xs.set i v) := by
  obtain ⟨c, A, rfl, r⟩ := F
  exact ⟨_, A.same W, by simp [Cell.setSlot], by simpa using r⟩
theorem Vec.len (F : Vec Z h a ty xs) : xs.length < 2147483648 := by obtain ⟨c, A, rfl, r⟩ := F; exact r
theorem VecR.lt (F : VecR Z h a C xs) : a < h.size := by obtain ⟨c, A, -⟩ := F; exact A.lt
theorem VecR.ext (F : VecR Z h a C xs) (E : Ext h h') : VecR Z h' a C xs := by obtain ⟨c, A, r⟩ := F; exact ⟨c, A.ext E, r⟩
theorem VecR.other (F : VecR Z h b C xs) (W : Wr h h' a sl v) (q : b ≠ a) : VecR Z h' b C xs := by obtain ⟨c, A, r⟩ := F; exact ⟨c, A.other W q, r⟩
theorem VecR.keep (F : VecR Z h a C xs) (K : Keep h h' ws) (q : a ∉ ws) : VecR Z h' a C xs := by obtain ⟨c, A, r⟩ := F; exact ⟨c, ⟨K.2.1 a c A.1 q, A.2⟩, r⟩
theorem VecR.vec (F : VecR Z h a C xs) : Vec Z h a (.object C) xs := by obtain ⟨c, A, r1, r2, -⟩ := F; exact ⟨c, A, r1, r2⟩
theorem VecR.set (F : VecR Z h a C xs) {i : Nat} (W : Wr h h' a i v) : VecR Z h' a C (xs.set i v) := by
  obtain ⟨c, A, rfl, r, o⟩ := F
  exact ⟨_, A.same W, by simp [Cell.setSlot], by simpa using r, o⟩
theorem clamp {j : Int32} {i : Nat} (hj : j.toInt = i) : j.toNatClampNeg = i ∧ ¬ j < 0 := by
  refine ⟨by simp [Int32.toNatClampNeg, hj], ?_⟩
  rw [Int32.lt_iff_toInt_lt, hj]; simp only [Int32.reduceToInt]; omega
end Vecs
def DV (Z : State) (h : Heap) (a : Addr) (xs : List UInt64) : Prop := Vec Z h a .double (xs.map Value.double)
theorem DV.lt {Z : State} {h : Heap} {a : Addr} {xs : List UInt64} (F : DV Z h a xs) : a < h.size := Vec.lt F
theorem DV.ext {Z : State} {h h' : Heap} {a : Addr} {xs : List UInt64} (F : DV Z h a xs) (E : Ext h h') : DV Z h' a xs := Vec.ext F E
theorem DV.other {Z : State} {h h' : Heap} {a b : Addr} {xs : List UInt64} {sl : Nat} {v : Value} (F : DV Z h b xs) (W : Wr h h' a sl v) (q : b ≠ a) : DV Z h' b xs := Vec.other F W q
theorem DV.keep {Z : State} {h h' : Heap} {a : Addr} {xs : List UInt64} {ws : List Addr} (F : DV Z h a xs) (K : Keep h h' ws) (q : a ∉ ws) : DV Z h' a xs := Vec.keep F K q
theorem DV.set {Z : State} {h h' : Heap} {a : Addr} {xs : List UInt64} {i : Nat} {x : UInt64} (F : DV Z h a xs) (W : Wr h h' a i (Value.double x)) : DV Z h' a (xs.set i x) := by
  have q := Vec.set F W
  rwa [← List.map_set] at q
def IV (Z : State) (h : Heap) (a : Addr) (xs : List Int32) : Prop := Vec Z h a .int (xs.map Value.int)
theorem IV.lt {Z : State} {h : Heap} {a : Addr} {xs : List Int32} (F : IV Z h a xs) : a < h.size := Vec.lt F
theorem IV.ext {Z : State} {h h' : Heap} {a : Addr} {xs : List Int32} (F : IV Z h a xs) (E : Ext h h') : IV Z h' a xs := Vec.ext F E
theorem IV.other {Z : State} {h h' : Heap} {a b : Addr} {xs : List Int32} {sl : Nat} {v : Value} (F : IV Z h b xs) (W : Wr h h' a sl v) (q : b ≠ a) : IV Z h' b xs := Vec.other F W q
theorem IV.keep {Z : State} {h h' : Heap} {a : Addr} {xs : List Int32} {ws : List Addr} (F : IV Z h a xs) (K : Keep h h' ws) (q : a ∉ ws) : IV Z h' a xs := Vec.keep F K q
theorem IV.set {Z : State} {h h' : Heap} {a : Addr} {xs : List Int32} {i : Nat} {x : Int32} (F : IV Z h a xs) (W : Wr h h' a i (Value.int x)) : IV Z h' a (xs.set i x) := by
  have q := Vec.set F W
  rwa [← List.map_set] at q
def JV (Z : State) (h : Heap) (a : Addr) (xs : List Int64) : Prop := Vec Z h a .long (xs.map Value.long)
theorem JV.lt {Z : State} {h : Heap} {a : Addr} {xs : List Int64} (F : JV Z h a xs) : a < h.size := Vec.lt F
theorem JV.ext {Z : State} {h h' : Heap} {a : Addr} {xs : List Int64} (F : JV Z h a xs) (E : Ext h h') : JV Z h' a xs := Vec.ext F E
theorem JV.other {Z : State} {h h' : Heap} {a b : Addr} {xs : List Int64} {sl : Nat} {v : Value} (F : JV Z h b xs) (W : Wr h h' a sl v) (q : b ≠ a) : JV Z h' b xs := Vec.other F W q
theorem JV.keep {Z : State} {h h' : Heap} {a : Addr} {xs : List Int64} {ws : List Addr} (F : JV Z h a xs) (K : Keep h h' ws) (q : a ∉ ws) : JV Z h' a xs := Vec.keep F K q
theorem JV.set {Z : State} {h h' : Heap} {a : Addr} {xs : List Int64} {i : Nat} {x : Int64} (F : JV Z h a xs) (W : Wr h h' a i (Value.long x)) : JV Z h' a (xs.set i x) := by
  have q := Vec.set F W
  rwa [← List.map_set] at q
def ZV (Z : State) (h : Heap) (a : Addr) (xs : List Int32) : Prop := Vec Z h a .boolean (xs.map Value.int)
theorem ZV.lt {Z : State} {h : Heap} {a : Addr} {xs : List Int32} (F : ZV Z h a xs) : a < h.size := Vec.lt F
theorem ZV.ext {Z : State} {h h' : Heap} {a : Addr} {xs : List Int32} (F : ZV Z h a xs) (E : Ext h h') : ZV Z h' a xs := Vec.ext F E
theorem ZV.other {Z : State} {h h' : Heap} {a b : Addr} {xs : List Int32} {sl : Nat} {v : Value} (F : ZV Z h b xs) (W : Wr h h' a sl v) (q : b ≠ a) : ZV Z h' b xs := Vec.other F W q
theorem ZV.keep {Z : State} {h h' : Heap} {a : Addr} {xs : List Int32} {ws : List Addr} (F : ZV Z h a xs) (K : Keep h h' ws) (q : a ∉ ws) : ZV Z h' a xs := Vec.keep F K q
theorem ZV.set {Z : State} {h h' : Heap} {a : Addr} {xs : List Int32} {i : Nat} {x : Int32} (F : ZV Z h a xs) (W : Wr h h' a i (Value.int x)) : ZV Z h' a (xs.set i x) := by
  have q := Vec.set F W
  rwa [← List.map_set] at q
theorem DV.new {Z : State} {h : Heap} {a : Addr} {N : Nat} (F : Vec Z h a (newarray.typeOf .double) (List.replicate N (defaultValue (newarray.typeOf .double)))) : DV Z h a (List.replicate N 0) := by
  unfold DV; rw [List.map_replicate]; exact F
theorem IV.new {Z : State} {h : Heap} {a : Addr} {N : Nat} (F : Vec Z h a (newarray.typeOf .int) (List.replicate N (defaultValue (newarray.typeOf .int)))) : IV Z h a (List.replicate N 0) := by
  unfold IV; rw [List.map_replicate]; exact F
theorem JV.new {Z : State} {h : Heap} {a : Addr} {N : Nat} (F : Vec Z h a (newarray.typeOf .long) (List.replicate N (defaultValue (newarray.typeOf .long)))) : JV Z h a (List.replicate N 0) := by
  unfold JV; rw [List.map_replicate]; exact F
theorem ZV.new {Z : State} {h : Heap} {a : Addr} {N : Nat} (F : Vec Z h a (newarray.typeOf .boolean) (List.replicate N (defaultValue (newarray.typeOf .boolean)))) : ZV Z h a (List.replicate N 0) := by
  unfold ZV; rw [List.map_replicate]; exact F
def HV (Z : State) (h : Heap) (a : Addr) (xs : List Nat) : Prop := Vec Z h a .int (xs.map (fun c : Nat => Value.int (Int32.ofNat c)))
theorem HV.lt {Z : State} {h : Heap} {a : Addr} {xs : List Nat} (F : HV Z h a xs) : a < h.size := Vec.lt F
theorem HV.ext {Z : State} {h h' : Heap} {a : Addr} {xs : List Nat} (F : HV Z h a xs) (E : Ext h h') : HV Z h' a xs := Vec.ext F E
theorem HV.other {Z : State} {h h' : Heap} {a b : Addr} {xs : List Nat} {sl : Nat} {v : Value} (F : HV Z h b xs) (W : Wr h h' a sl v) (q : b ≠ a) : HV Z h' b xs := Vec.other F W q
theorem HV.keep {Z : State} {h h' : Heap} {a : Addr} {xs : List Nat} {ws : List Addr} (F : HV Z h a xs) (K : Keep h h' ws) (q : a ∉ ws) : HV Z h' a xs := Vec.keep F K q
theorem HV.set {Z : State} {h h' : Heap} {a : Addr} {xs : List Nat} {i c : Nat} (F : HV Z h a xs) (W : Wr h h' a i (.int (Int32.ofNat c))) : HV Z h' a (xs.set i c) := by
  have q := Vec.set F W
  unfold HV
  rw [List.map_set]; exact q
theorem HV.new {Z : State} {h : Heap} {a : Addr} {N : Nat} (F : Vec Z h a (newarray.typeOf .int) (List.replicate N (defaultValue (newarray.typeOf .int)))) : HV Z h a (List.replicate N 0) := by
  unfold HV; rw [List.map_replicate]; exact F
theorem mapAt {α : Type} {f : α → Value} {xs : List α} {i : Nat} {x : α} (h : xs[i]? = some x) : (xs.map f)[i]? = some (f x) := by rw [List.getElem?_map, h]; rfl
theorem mapLt {α : Type} {f : α → Value} {xs : List α} {i : Nat} (h : i < xs.length) : i < (xs.map f).length := by rwa [List.length_map]
theorem getDAt {α : Type} {xs : List α} {i : Nat} {d : α} (h : i < xs.length) : xs[i]? = some (xs.getD i d) := by rw [List.getD_eq_getElem?_getD, List.getElem?_eq_getElem h]; rfl
section Walk2
variable {p : Program} {l : Launch} {e : Env} {R : Room} {s : State} {m : MethodId} {args : Array Value} {below : List Frame} {meth : Method} {c : Code} {Z : State} {a0 : Array Value} {own nm : String} {bytes : ByteArray} {ml : Nat} {ret : Option FieldType} {n0 ce sl pc pc' : Nat} {h : Heap} {Ls Ls' : Array Slot} {S : List Value} {Q : Option Value → Heap → Prop} {a : Addr} {ty : FieldType} {xs : List Value} {v : Value} {j : Int32} {i : Nat}
theorem inb {cl : Cell} (e1 : cl.slots.toList = xs) (hj : j.toInt = i) (hi : i < xs.length) : ¬ (j < 0 ∨ cl.slots.size ≤ j.toNatClampNeg) := by
  obtain ⟨q1, q2⟩ := clamp hj
  subst e1
  rw [q1]; simp at hi; intro q; rcases q with q | q
  · exact q2 q
  · omega
theorem inv {cl : Cell} (e1 : cl.slots.toList = xs) (hj : j.toInt = i) (hv : xs[i]? = some v) : cl.slots[j.toNatClampNeg]? = some v := by
  obtain ⟨q1, q2⟩ := clamp hj
  subst e1
  rw [q1]; simpa using hv
theorem ltOf (hv : xs[i]? = some v) : i < xs.length := (List.getElem?_eq_some_iff.mp hv).1
theorem iaload (K : Cx Z own nm bytes ml ret p s m meth c) (F : Vec Z h a .int xs) (hj : j.toInt = i) (hv : xs[i]? = some v) (hd : decode bytes pc = .ok (.iaload, 1)) (hp : pc + 1 = pc') (q : Go p l e R s m args below meth c n0 h ce sl (mkF m pc' Ls (v :: S)) Q) : Go p l e R s m args below meth c n0 h ce sl (mkF m pc Ls (.int j :: .ref a :: S)) Q := by
  subst hp; obtain ⟨cl, A, e1, e2⟩ := F
  exact one (fun T L X eT t => X.iaload K.1 (by rw [eT]; exact A.1) (State.isArrayOf_alike K.2.1.alike A.2.1) A.2.2 (inb e1 hj (ltOf hv)) (inv e1 hj hv) (g := mkF m pc Ls (.int j :: .ref a :: S)) rfl rfl (hb K.2.2.2.1 hd) t) q
theorem laload (K : Cx Z own nm bytes ml ret p s m meth c) (F : Vec Z h a .long xs) (hj : j.toInt = i) (hv : xs[i]? = some v) (hd : decode bytes pc = .ok (.laload, 1)) (hp : pc + 1 = pc') (q : Go p l e R s m args below meth c n0 h ce sl (mkF m pc' Ls (v :: S)) Q) : Go p l e R s m args below meth c n0 h ce sl (mkF m pc Ls (.int j :: .ref a :: S)) Q := by
  subst hp; obtain ⟨cl, A, e1, e2⟩ := F
  exact one (fun T L X eT t => X.laload K.1 (by rw [eT]; exact A.1) (State.isArrayOf_alike K.2.1.alike A.2.1) A.2.2 (inb e1 hj (ltOf hv)) (inv e1 hj hv) (g := mkF m pc Ls (.int j :: .ref a :: S)) rfl rfl (hb K.2.2.2.1 hd) t) q
theorem daload (K : Cx Z own nm bytes ml ret p s m meth c) (F : Vec Z h a .double xs) (hj : j.toInt = i) (hv : xs[i]? = some v) (hd : decode bytes pc = .ok (.daload, 1)) (hp : pc + 1 = pc') (q : Go p l e R s m args below meth c n0 h ce sl (mkF m pc' Ls (v :: S)) Q) : Go p l e R s m args below meth c n0 h ce sl (mkF m pc Ls (.int j :: .ref a :: S)) Q := by
  subst hp; obtain ⟨cl, A, e1, e2⟩ := F
  exact one (fun T L X eT t => X.daload K.1 (by rw [eT]; exact A.1) (State.isArrayOf_alike K.2.1.alike A.2.1) A.2.2 (inb e1 hj (ltOf hv)) (inv e1 hj hv) (g := mkF m pc Ls (.int j :: .ref a :: S)) rfl rfl (hb K.2.2.2.1 hd) t) q
theorem zaload (K : Cx Z own nm bytes ml ret p s m meth c) (F : Vec Z h a .boolean xs) (hj : j.toInt = i) (hv : xs[i]? = some v) (hd : decode bytes pc = .ok (.baload, 1)) (hp : pc + 1 = pc') (q : Go p l e R s m args below meth c n0 h ce sl (mkF m pc' Ls (v :: S)) Q) : Go p l e R s m args below meth c n0 h ce sl (mkF m pc Ls (.int j :: .ref a :: S)) Q := by
  subst hp; obtain ⟨cl, A, e1, e2⟩ := F
  exact one (fun T L X eT t => X.baloadBooleans K.1 (by rw [eT]; exact A.1) (State.isArrayOf_alike K.2.1.alike A.2.1) A.2.2 (inb e1 hj (ltOf hv)) (inv e1 hj hv) (g := mkF m pc Ls (.int j :: .ref a :: S)) rfl rfl (hb K.2.2.2.1 hd) t) q
theorem baload (K : Cx Z own nm bytes ml ret p s m meth c) (F : Vec Z h a .byte xs) (hj : j.toInt = i) (hv : xs[i]? = some v) (hd : decode bytes pc = .ok (.baload, 1)) (hp : pc + 1 = pc') (q : Go p l e R s m args below meth c n0 h ce sl (mkF m pc' Ls (v :: S)) Q) : Go p l e R s m args below meth c n0 h ce sl (mkF m pc Ls (.int j :: .ref a :: S)) Q := by
  subst hp; obtain ⟨cl, A, e1, e2⟩ := F
  exact one (fun T L X eT t => X.baloadBytes K.1 (by rw [eT]; exact A.1) (State.isArrayOf_alike K.2.1.alike A.2.1) A.2.2 (inb e1 hj (ltOf hv)) (inv e1 hj hv) (g := mkF m pc Ls (.int j :: .ref a :: S)) rfl rfl (hb K.2.2.2.1 hd) t) q
theorem aaload (K : Cx Z own nm bytes ml ret p s m meth c) (F : Vec Z h a ty xs) (ht : ty.isReference = true) (hj : j.toInt = i) (hv : xs[i]? = some v) (hd : decode bytes pc = .ok (.aaload, 1)) (hp : pc + 1 = pc') (q : Go p l e R s m args below meth c n0 h ce sl (mkF m pc' Ls (v :: S)) Q) : Go p l e R s m args below meth c n0 h ce sl (mkF m pc Ls (.int j :: .ref a :: S)) Q := by
  subst hp; obtain ⟨cl, A, e1, e2⟩ := F
  exact one (fun T L X eT t => X.aaload K.1 (by rw [eT]; exact A.1) (State.isArrayOf_alike K.2.1.alike A.2.1) ht A.2.2 (inb e1 hj (ltOf hv)) (inv e1 hj hv) (g := mkF m pc Ls (.int j :: .ref a :: S)) rfl rfl (hb K.2.2.2.1 hd) t) q
theorem alen (K : Cx Z own nm bytes ml ret p s m meth c) (F : Vec Z h a ty xs) (hd : decode bytes pc = .ok (.arraylength, 1)) (hp : pc + 1 = pc') (q : Go p l e R s m args below meth c n0 h ce sl (mkF m pc' Ls (.int xs.length.toInt32 :: S)) Q) : Go p l e R s m args below meth c n0 h ce sl (mkF m pc Ls (.ref a :: S)) Q := by
  subst hp; obtain ⟨cl, A, e1, e2⟩ := F
  have hz : cl.slots.size = xs.length := by rw [← e1]; simp
  rw [← hz] at q
  exact one (fun T L X eT t => X.arraylength K.1 (by rw [eT]; exact A.1) (State.isArrayOf_alike K.2.1.alike A.2.1) (g := mkF m pc Ls (.ref a :: S)) rfl rfl (hb K.2.2.2.1 hd) t) q
theorem iastore (K : Cx Z own nm bytes ml ret p s m meth c) {x : Int32} (F : Vec Z h a .int xs) (hj : j.toInt = i) (hi : i < xs.length) (ga : n0 ≤ a) (hd : decode bytes pc = .ok (.iastore, 1)) (hp : pc + 1 = pc') (q : ∀ h', Wr h h' a i (.int x) → Go p l e R s m args below meth c n0 h' ce sl (mkF m pc' Ls S) Q) : Go p l e R s m args below meth c n0 h ce sl (mkF m pc Ls (.int x :: .int j :: .ref a :: S)) Q := by
  subst hp; obtain ⟨cl, A, e1, e2⟩ := F
  intro T L0 X N eT
  obtain ⟨T', h', X', e', W, st⟩ := stI X K.1 K.2.1 eT A (inb e1 hj hi) (g := mkF m pc Ls (.int x :: .int j :: .ref a :: S)) rfl rfl (hb K.2.2.2.1 hd)
  rw [(clamp hj).1] at W
  obtain ⟨s₂, u, L', a1, r⟩ := q h' W T' _ X' (Fr.snoc X' N ga) e'
  exact ⟨s₂, u, L', st _ a1, r⟩
theorem lastore (K : Cx Z own nm bytes ml ret p s m meth c) {x : Int64} (F : Vec Z h a .long xs) (hj : j.toInt = i) (hi : i < xs.length) (ga : n0 ≤ a) (hd : decode bytes pc = .ok (.lastore, 1)) (hp : pc + 1 = pc') (q : ∀ h', Wr h h' a i (.long x) → Go p l e R s m args below meth c n0 h' ce sl (mkF m pc' Ls S) Q) : Go p l e R s m args below meth c n0 h ce sl (mkF m pc Ls (.long x :: .int j :: .ref a :: S)) Q := by
  subst hp; obtain ⟨cl, A, e1, e2⟩ := F
  intro T L0 X N eT
  obtain ⟨T', h', X', e', W, st⟩ := stJ X K.1 K.2.1 eT A (inb e1 hj hi) (g := mkF m pc Ls (.long x :: .int j :: .ref a :: S)) rfl rfl (hb K.2.2.2.1 hd)
  rw [(clamp hj).1] at W
  obtain ⟨s₂, u, L', a1, r⟩ := q h' W T' _ X' (Fr.snoc X' N ga) e'
  exact ⟨s₂, u, L', st _ a1, r⟩
theorem dastore (K : Cx Z own nm bytes ml ret p s m meth c) {x : UInt64} (F : Vec Z h a .double xs) (hj : j.toInt = i) (hi : i < xs.length) (ga : n0 ≤ a) (hd : decode bytes pc = .ok (.dastore, 1)) (hp : pc + 1 = pc') (q : ∀ h', Wr h h' a i (.double x) → Go p l e R s m args below meth c n0 h' ce sl (mkF m pc' Ls S) Q) : Go p l e R s m args below meth c n0 h ce sl (mkF m pc Ls (.double x :: .int j :: .ref a :: S)) Q := by
  subst hp; obtain ⟨cl, A, e1, e2⟩ := F
  intro T L0 X N eT
  obtain ⟨T', h', X', e', W, st⟩ := stD X K.1 K.2.1 eT A (inb e1 hj hi) (g := mkF m pc Ls (.double x :: .int j :: .ref a :: S)) rfl rfl (hb K.2.2.2.1 hd)
  rw [(clamp hj).1] at W
  obtain ⟨s₂, u, L', a1, r⟩ := q h' W T' _ X' (Fr.snoc X' N ga) e'
  exact ⟨s₂, u, L', st _ a1, r⟩
theorem zastore (K : Cx Z own nm bytes ml ret p s m meth c) {x : Int32} (F : Vec Z h a .boolean xs) (hj : j.toInt = i) (hi : i < xs.length) (ga : n0 ≤ a) (hd : decode bytes pc = .ok (.bastore, 1)) (hp : pc + 1 = pc') (q : ∀ h', Wr h h' a i (.int (nar .boolean x)) → Go p l e R s m args below meth c n0 h' ce sl (mkF m pc' Ls S) Q) : Go p l e R s m args below meth c n0 h ce sl (mkF m pc Ls (.int x :: .int j :: .ref a :: S)) Q := by
  subst hp; obtain ⟨cl, A, e1, e2⟩ := F
  intro T L0 X N eT
  obtain ⟨T', h', X', e', W, st⟩ := stZ X K.1 K.2.1 eT A (inb e1 hj hi) (g := mkF m pc Ls (.int x :: .int j :: .ref a :: S)) rfl rfl (hb K.2.2.2.1 hd)
  rw [(clamp hj).1] at W
  obtain ⟨s₂, u, L', a1, r⟩ := q h' W T' _ X' (Fr.snoc X' N ga) e'
  exact ⟨s₂, u, L', st _ a1, r⟩
theorem bastore (K : Cx Z own nm bytes ml ret p s m meth c) {x : Int32} (F : Vec Z h a .byte xs) (hj : j.toInt = i) (hi : i < xs.length) (ga : n0 ≤ a) (hd : decode bytes pc = .ok (.bastore, 1)) (hp : pc + 1 = pc') (q : ∀ h', Wr h h' a i (.int (nar .byte x)) → Go p l e R s m args below meth c n0 h' ce sl (mkF m pc' Ls S) Q) : Go p l e R s m args below meth c n0 h ce sl (mkF m pc Ls (.int x :: .int j :: .ref a :: S)) Q := by
  subst hp; obtain ⟨cl, A, e1, e2⟩ := F
  intro T L0 X N eT
  obtain ⟨T', h', X', e', W, st⟩ := stB X K.1 K.2.1 eT A (inb e1 hj hi) (g := mkF m pc Ls (.int x :: .int j :: .ref a :: S)) rfl rfl (hb K.2.2.2.1 hd)
  rw [(clamp hj).1] at W
  obtain ⟨s₂, u, L', a1, r⟩ := q h' W T' _ X' (Fr.snoc X' N ga) e'
  exact ⟨s₂, u, L', st _ a1, r⟩
theorem aastore (K : Cx Z own nm bytes ml ret p s m meth c) {C : String} (F : VecR Z h a C xs) (hS : v = .null ∨ ∃ y, v = .ref y ∧ Ins Z h y C true) (hj : j.toInt = i) (hi : i < xs.length) (ga : n0 ≤ a) (hd : decode bytes pc = .ok (.aastore, 1)) (hp : pc + 1 = pc') (q : ∀ h', Wr h h' a i v → Go p l e R s m args below meth c n0 h' ce sl (mkF m pc' Ls S) Q) : Go p l e R s m args below meth c n0 h ce sl (mkF m pc Ls (v :: .int j :: .ref a :: S)) Q := by
  subst hp; obtain ⟨cl, A, e1, e2, O⟩ := F
  intro T L0 X N eT
  have hSt : Sto Z h a v := by
    rcases hS with rfl | ⟨y, rfl, I⟩
    · exact Or.inl rfl
    · exact Sto.of A O I
  obtain ⟨T', h', X', e', W, st⟩ := stR X K.1 K.2.1 eT A (inb e1 hj hi) rfl hSt (g := mkF m pc Ls (v :: .int j :: .ref a :: S)) rfl rfl (hb K.2.2.2.1 hd)
  rw [(clamp hj).1] at W
  obtain ⟨s₂, u, L', a1, r⟩ := q h' W T' _ X' (Fr.snoc X' N ga) e'
  exact ⟨s₂, u, L', st _ a1, r⟩
theorem newArr (K : Cx Z own nm bytes ml ret p s m meth c) {aty : ArrayType} {n : Int32} {N : Nat} (w : (Cond.arrayClass (newarray.typeOf aty)).before a0 Z = true) (hn : n.toInt = N) (hb : N * 8 ≤ 536870912) (hd : decode bytes pc = .ok (.newarray aty, 2)) (hc : ce + 1 ≤ R.cells) (hl : sl + N ≤ R.slots) (hp : pc + 2 = pc') (q : ∀ h' x, x = h.size → Ext h h' → Vec Z h' x (newarray.typeOf aty) (List.replicate N (defaultValue (newarray.typeOf aty))) → Go p l e R s m args below meth c n0 h' (ce + 1) (sl + N) (mkF m pc' Ls (.ref x :: S)) Q) : Go p l e R s m args below meth c n0 h ce sl (mkF m pc Ls (.int n :: S)) Q := by
  subst hp
  obtain ⟨c1, c2⟩ := clamp hn
  intro T L0 X N0 eT
  obtain ⟨T', h', cA, X', e', E, A, st⟩ := newP X K.1 K.2.1 w eT (g := mkF m pc Ls (.int n :: S)) rfl (Jvm.hb K.2.2.2.1 hd) rfl c2 (cap := N) (Nat.le_of_eq c1) hb hc hl
  obtain ⟨s₂, u, L', a1, r⟩ := q h' h.size rfl E ⟨_, A, by simp [newA, c1], by simp; omega⟩ T' _ X' N0 e'
  exact ⟨s₂, u, L', st _ a1, r⟩
theorem newArrC (K : Cx Z own nm bytes ml ret p s m meth c) {aty : ArrayType} {n : Int32} {N cap : Nat} (w : (Cond.arrayClass (newarray.typeOf aty)).before a0 Z = true) (hn : n.toInt = N) (hcap : N ≤ cap) (hb : cap * 8 ≤ 536870912) (hd : decode bytes pc = .ok (.newarray aty, 2)) (hc : ce + 1 ≤ R.cells) (hl : sl + cap ≤ R.slots) (hp : pc + 2 = pc') (q : ∀ h' x, x = h.size → Ext h h' → Vec Z h' x (newarray.typeOf aty) (List.replicate N (defaultValue (newarray.typeOf aty))) → Go p l e R s m args below meth c n0 h' (ce + 1) (sl + cap) (mkF m pc' Ls (.ref x :: S)) Q) : Go p l e R s m args below meth c n0 h ce sl (mkF m pc Ls (.int n :: S)) Q := by
  subst hp
  obtain ⟨c1, c2⟩ := clamp hn
  intro T L0 X N0 eT
  obtain ⟨T', h', cA, X', e', E, A, st⟩ := newP X K.1 K.2.1 w eT (g := mkF m pc Ls (.int n :: S)) rfl (Jvm.hb K.2.2.2.1 hd) rfl c2 (cap := cap) (by omega) hb hc hl
  obtain ⟨s₂, u, L', a1, r⟩ := q h' h.size rfl E ⟨_, A, by simp [newA, c1], by simp; omega⟩ T' _ X' N0 e'
  exact ⟨s₂, u, L', st _ a1, r⟩
theorem newArrR (K : Cx Z own nm bytes ml ret p s m meth c) {k : Nat} {C : String} {n : Int32} {N : Nat} (w1 : (Cond.classLink own k C).before a0 Z = true) (w2 : (Cond.arrayOver (.object C)).before a0 Z = true) (hn : n.toInt = N) (hb : N * 8 ≤ 536870912) (hd : decode bytes pc = .ok (.anewarray k, 3)) (hc : ce + 1 ≤ R.cells) (hl : sl + N ≤ R.slots) (hp : pc + 3 = pc') (q : ∀ h' x, x = h.size → Ext h h' → VecR Z h' x C (List.replicate N .null) → Go p l e R s m args below meth c n0 h' (ce + 1) (sl + N) (mkF m pc' Ls (.ref x :: S)) Q) : Go p l e R s m args below meth c n0 h ce sl (mkF m pc Ls (.int n :: S)) Q := by
  subst hp
  obtain ⟨c1, c2⟩ := clamp hn
  intro T L0 X N0 eT
  obtain ⟨T', h', cA, X', e', E, A, O, st⟩ := newR X K.1 K.2.1 K.2.2.1 w1 w2 eT (g := mkF m pc Ls (.int n :: S)) rfl (Jvm.hb K.2.2.2.1 hd) rfl c2 (cap := N) (Nat.le_of_eq c1) hb hc hl
  obtain ⟨s₂, u, L', a1, r⟩ := q h' h.size rfl E ⟨_, A, by simp [newA, c1, defaultValue], by simp; omega, O⟩ T' _ X' N0 e'
  exact ⟨s₂, u, L', st _ a1, r⟩
theorem cast' (K : Cx Z own nm bytes ml ret p s m meth c) {k : Nat} {K' : String} (w : (Cond.classLink own k K').before a0 Z = true) (F : Ins Z h a K' true) (hd : decode bytes pc = .ok (.checkcast k, 3)) (hp : pc + 3 = pc') (q : Go p l e R s m args below meth c n0 h ce sl (mkF m pc' Ls (.ref a :: S)) Q) : Go p l e R s m args below meth c n0 h ce sl (mkF m pc Ls (.ref a :: S)) Q := by
  subst hp; exact oneT (fun T L X eT => castY X K.1 K.2.1 K.2.2.1 w eT F (g := mkF m pc Ls (.ref a :: S)) rfl rfl (hb K.2.2.2.1 hd)) q
end Walk2
/-- a body's walk is its contract -/
theorem ctr {l : Launch} {Z : State} {y : MethodName} {bytes : ByteArray} {ml : Nat} {ret : Option FieldType} {ws : List Cond} {rm : Room} {n0 : Nat} {as' : Array Value} {h : Heap} {Q : Option Value → Heap → Prop} {own nm : String} (ho : y.cls = own) (hn : y.name = nm) {Ls : Array Slot} (hpl : plainFor y = true) (hef : ∀ m : MethodId, entryFrame m as' ml = mkF m 0 Ls [])
    (body : ∀ (p : Program) (e : Env) (s : State) (m : MethodId) (below : List Frame) (meth : Method) (c : Code), Cx Z own nm bytes ml ret p s m meth c → s.heap = h → Go p l e rm s m as' below meth c n0 h 0 0 (mkF m 0 Ls []) Q) : Ctr l Z y bytes ml ret ws rm n0 as' h Q := by
  subst ho hn
  refine MetFree.of_bodySF hpl hisR ?_
  intro p e s m args below meth c s₁ Bd hml hP hK
  obtain ⟨rfl, hZ, hh⟩ := hP
  have X0 : Stand p l e rm s m _ below meth c s₁ [] 0 0 := Stand.of_body Bd
  have e0 : s₁.heap = h := by rw [← hh, Bd.state]; rfl
  obtain ⟨s₂, v, L', a1, a2, a3, a4, a5, a6⟩ := body p e s m below meth c ⟨Bd.exec, hZ, findClass_of_methodNamed Bd.named, Bd.bytes, hml, Bd.returns, BodyLoose.notSynchronized Bd, (name_of_methodNamed Bd.named Bd.method).1⟩ hh s₁ [] X0 (Fr.nil n0) e0
  exact ⟨s₂, _, castTop (hef m) a1, a2, a3, v, L', rfl, ⟨a5, a4⟩, a6⟩
/-- a term that the case sets equal to a double -/
theorem eqD {args : Array Value} {first s : State} {o : Option Outcome} {idx : List Nat} {a b : Term} {n : UInt64} (h : (Cond.eq a b).value args first o s idx = some true) (hb : b.eval args first o idx s = some (.double n)) : a.eval args first o idx s = some (.double n) := by
  simp only [Cond.value, hb] at h
  cases ha : a.eval args first o idx s with
  | none => simp [ha] at h
  | some x => cases x <;> simp [ha] at h ⊢; exact h
/-- a term that the case sets equal to a reference -/
theorem eqR {args : Array Value} {first s : State} {o : Option Outcome} {idx : List Nat} {a b : Term} {n : Addr} (h : (Cond.eq a b).value args first o s idx = some true) (hb : b.eval args first o idx s = some (.ref n)) : a.eval args first o idx s = some (.ref n) := by
  simp only [Cond.value, hb] at h
  cases ha : a.eval args first o idx s with
  | none => simp [ha] at h
  | some x => cases x <;> simp [ha] at h ⊢; exact h
theorem eqI {args : Array Value} {first s : State} {o : Option Outcome} {idx : List Nat} {a b : Term} {n : Int32} (h : (Cond.eq a b).value args first o s idx = some true) (hb : b.eval args first o idx s = some (.int n)) : a.eval args first o idx s = some (.int n) := by
  simp only [Cond.value, hb] at h
  cases ha : a.eval args first o idx s with
  | none => simp [ha] at h
  | some x => cases x <;> simp [ha] at h ⊢; exact h
/-! the branch behind a comparison of doubles -/
def dge (r : Option Ordering) : Prop := r = some .eq ∨ r = some .gt
def dle (r : Option Ordering) : Prop := r = some .lt ∨ r = some .eq
section Dd
variable {r : Option Ordering}
theorem dd_l_eq_t (h : r = some .eq) : ifCond.holds .eq (cmpValue r .l) = true := by
  revert h; try unfold dge
  try unfold dle
  rcases r with _ | (_ | _ | _) <;> decide
theorem dd_l_eq_f (h : ¬ r = some .eq) : ifCond.holds .eq (cmpValue r .l) = false := by
  revert h; try unfold dge
  try unfold dle
  rcases r with _ | (_ | _ | _) <;> decide
theorem dd_l_ne_t (h : ¬ r = some .eq) : ifCond.holds .ne (cmpValue r .l) = true := by
  revert h; try unfold dge
  try unfold dle
  rcases r with _ | (_ | _ | _) <;> decide
theorem dd_l_ne_f (h : r = some .eq) : ifCond.holds .ne (cmpValue r .l) = false := by
  revert h; try unfold dge
  try unfold dle
  rcases r with _ | (_ | _ | _) <;> decide
theorem dd_l_lt_t (h : ¬ dge r) : ifCond.holds .lt (cmpValue r .l) = true := by
  revert h; try unfold dge
  try unfold dle
  rcases r with _ | (_ | _ | _) <;> decide
theorem dd_l_lt_f (h : dge r) : ifCond.holds .lt (cmpValue r .l) = false := by
  revert h; try unfold dge
  try unfold dle
  rcases r with _ | (_ | _ | _) <;> decide
theorem dd_l_ge_t (h : dge r) : ifCond.holds .ge (cmpValue r .l) = true := by
  revert h; try unfold dge
  try unfold dle
  rcases r with _ | (_ | _ | _) <;> decide
theorem dd_l_ge_f (h : ¬ dge r) : ifCond.holds .ge (cmpValue r .l) = false := by
  revert h; try unfold dge
  try unfold dle
  rcases r with _ | (_ | _ | _) <;> decide
theorem dd_l_gt_t (h : r = some .gt) : ifCond.holds .gt (cmpValue r .l) = true := by
  revert h; try unfold dge
  try unfold dle
  rcases r with _ | (_ | _ | _) <;> decide
theorem dd_l_gt_f (h : ¬ r = some .gt) : ifCond.holds .gt (cmpValue r .l) = false := by
  revert h; try unfold dge
  try unfold dle
  rcases r with _ | (_ | _ | _) <;> decide
theorem dd_l_le_t (h : ¬ r = some .gt) : ifCond.holds .le (cmpValue r .l) = true := by
  revert h; try unfold dge
  try unfold dle
  rcases r with _ | (_ | _ | _) <;> decide
theorem dd_l_le_f (h : r = some .gt) : ifCond.holds .le (cmpValue r .l) = false := by
  revert h; try unfold dge
  try unfold dle
  rcases r with _ | (_ | _ | _) <;> decide
theorem dd_g_eq_t (h : r = some .eq) : ifCond.holds .eq (cmpValue r .g) = true := by
  revert h; try unfold dge
  try unfold dle
  rcases r with _ | (_ | _ | _) <;> decide
theorem dd_g_eq_f (h : ¬ r = some .eq) : ifCond.holds .eq (cmpValue r .g) = false := by
  revert h; try unfold dge
  try unfold dle
  rcases r with _ | (_ | _ | _) <;> decide
theorem dd_g_ne_t (h : ¬ r = some .eq) : ifCond.holds .ne (cmpValue r .g) = true := by
  revert h; try unfold dge
  try unfold dle
  rcases r with _ | (_ | _ | _) <;> decide
theorem dd_g_ne_f (h : r = some .eq) : ifCond.holds .ne (cmpValue r .g) = false := by
  revert h; try unfold dge
  try unfold dle
  rcases r with _ | (_ | _ | _) <;> decide
theorem dd_g_lt_t (h : r = some .lt) : ifCond.holds .lt (cmpValue r .g) = true := by
  revert h; try unfold dge
  try unfold dle
  rcases r with _ | (_ | _ | _) <;> decide
theorem dd_g_lt_f (h : ¬ r = some .lt) : ifCond.holds .lt (cmpValue r .g) = false := by
  revert h; try unfold dge
  try unfold dle
  rcases r with _ | (_ | _ | _) <;> decide
theorem dd_g_ge_t (h : ¬ r = some .lt) : ifCond.holds .ge (cmpValue r .g) = true := by
  revert h; try unfold dge
  try unfold dle
  rcases r with _ | (_ | _ | _) <;> decide
theorem dd_g_ge_f (h : r = some .lt) : ifCond.holds .ge (cmpValue r .g) = false := by
  revert h; try unfold dge
  try unfold dle
  rcases r with _ | (_ | _ | _) <;> decide
theorem dd_g_gt_t (h : ¬ dle r) : ifCond.holds .gt (cmpValue r .g) = true := by
  revert h; try unfold dge
  try unfold dle
  rcases r with _ | (_ | _ | _) <;> decide
theorem dd_g_gt_f (h : dle r) : ifCond.holds .gt (cmpValue r .g) = false := by
  revert h; try unfold dge
  try unfold dle
  rcases r with _ | (_ | _ | _) <;> decide
theorem dd_g_le_t (h : dle r) : ifCond.holds .le (cmpValue r .g) = true := by
  revert h; try unfold dge
  try unfold dle
  rcases r with _ | (_ | _ | _) <;> decide
theorem dd_g_le_f (h : ¬ dle r) : ifCond.holds .le (cmpValue r .g) = false := by
  revert h; try unfold dge
  try unfold dle
  rcases r with _ | (_ | _ | _) <;> decide
end Dd
end Jvm.OwnWp
namespace Jvm.OwnWp
open Sem ClassFile Op Lib Jvm.Stand Jvm.Free Jvm.LawKit Jvm.RoadKit
/-- the step of an invokespecial of a constructor over an entry that is resolved already: the tables stay as they are -/
theorem initRef {tb : Tables} [Ours tb] {e : Env} {below : List Frame} {Z U : State} {mm : MethodId} {cc : Code} (h : At U mm cc below) (hexec : tb.exec = Jvm.exec) (hW : Z.Warmed39 U.vm) {own : String} (hown : U.vm.findClass own = some mm.cls) {idx : Nat} {t : MethodName} (ht1 : t.name = "<init>")
    (hnot : t.cls ≠ "java/lang/invoke/MethodHandle" ∧ t.cls ≠ "java/lang/invoke/VarHandle") {a0 : Array Value} {bytes : ByteArray} {maxL : Nat} (hlink : (Cond.methodRef own idx t).before a0 Z = true) (hinst : (Cond.instanceMethod t).before a0 Z = true) (hcode : (Cond.code t bytes maxL none).before a0 Z = true)
    {f : JFrame} (hf : f.method = mm) {a : Addr} {argsL rest : List Value} (hlen : ∀ sig, parseMethodDescriptor t.desc = some sig → argsL.length = sig.parameters.length) (hstack : f.stack = argsL.reverse ++ .ref a :: rest) (hd : decode cc.code f.pc = .ok (.invokespecial idx, 3)) :
    ∃ tm, Z.methodNamed? t = some tm ∧ ∀ target, (∀ acts, Steps tb e below (doInvoke e (U.setTop { f with stack := rest }) acts tm (.ref a :: argsL).toArray).1 target) → Steps tb e below (U.setTop f) target := by
  subst hf
  obtain ⟨obj, methO, hnO, hmO, hstO, habO⟩ := Cond.instanceMethod_spec hinst
  obtain ⟨methO', cO, hmO', -, -, -, -, -, -, hsigO⟩ := Cond.code_spec hnO hcode
  cases hmO.symm.trans hmO'
  obtain ⟨kO, hkO, hnameO⟩ := className_of_methodNamed hnO
  obtain ⟨hnameMO, hdescO⟩ := name_of_methodNamed hnO hmO
  obtain ⟨m', c', hm', hready, hfc, hnr⟩ := Cond.methodRef_named (s := Z.setVm U.vm) e (cur := f.method.cls) hown (Cond.methodRef_warmed39 hW hnO hnot hlink)
  rw [State.methodFound?_setVm_of_named hW.alike hnO hnot, State.methodFound?_of_named hnO hnot] at hm'
  cases hm'
  have hc' : c' = obj.cls := by
    have h1 : U.vm.findClass t.cls = some c' := hfc
    rw [hW.alike.findClass, findClass_of_methodNamed hnO] at h1
    exact (Option.some.inj h1).symm
  subst hc'
  obtain ⟨kU, hkU, -⟩ := hW.alike.2.2 _ _ hkO
  have hmU : U.vm.method? obj = some methO := by rw [hW.alike.method?]; exact hmO
  have hfound : lookupSpecial U.vm obj.cls "<init>" methO.desc = .method obj := by
    rw [hW.alike.lookupSpecial, hdescO, ← ht1]; exact lookupSpecial_of_named hnO hmO hstO
  refine ⟨obj, hnO, fun target hrest => ?_⟩
  jvm_step h [hexec, hd, invokespecial.wp_init (e := e) (s := U) (f := f) (k := kU) (meth := methO) (m := obj) (a := a) (args := argsL) (rest := rest) h.top hnr hready hkU hmU (by rw [hnameMO]; exact ht1) hstO habO hfound (hlen _ hsigO) hstack]
  exact hrest
section Walk
variable {p : Program} {l : Launch} {e : Env} {R : Room} {s : State} {m : MethodId} {args : Array Value} {below : List Frame} {meth : Method} {c : Code} {Z : State} {a0 : Array Value} {own nm : String} {bytes : ByteArray} {ml : Nat} {ret : Option FieldType} {n0 ce sl pc pc' : Nat} {h : Heap} {Ls Ls' : Array Slot} {S : List Value} {Q : Option Value → Heap → Prop}
theorem callInitRef (K : Cx Z own nm bytes ml ret p s m meth c) {i : Nat} {y : MethodName} {by' : ByteArray} {ml' : Nat} {ret' : Option FieldType} {rm : Room} {Q' : Option Value → Heap → Prop} {b : Addr} {argsL : List Value} (hy1 : y.name = "<init>") (w1 : (Cond.methodRef own i y).before a0 Z = true) (w2 : (Cond.instanceMethod y).before a0 Z = true) (wz : (Cond.initialized y.cls).before a0 Z = true) (wc : (Cond.code y by' ml' none).before a0 Z = true) (hr : ret' = none) (hy : y.cls ≠ "java/lang/invoke/MethodHandle" ∧ y.cls ≠ "java/lang/invoke/VarHandle") (Cc : Ctr l Z y by' ml' ret' [] rm n0 (.ref b :: argsL).toArray h Q') (hlen : ∀ sig, parseMethodDescriptor y.desc = some sig → argsL.length = sig.parameters.length) (hd : decode bytes pc = .ok (.invokespecial i, 3)) (hz : Ls.size = ml) (hf : rm.frames + 1 ≤ R.frames) (hW : (S.map fun v => v.category).sum + (ml' + 11) + rm.locals ≤ R.locals) (hc : ce + rm.cells ≤ R.cells) (hsl : sl + rm.slots ≤ R.slots) {st : List Value} (hst : st = (argsL.reverse ++ .ref b :: S)) (hp : pc + 3 = pc') (q : ∀ v h', Q' v h' → Go p l e R s m args below meth c n0 h' (ce + rm.cells) (sl + rm.slots) (mkF m pc' Ls (v.toList ++ S)) Q) : Go p l e R s m args below meth c n0 h ce sl (mkF m pc Ls st) Q := by
  subst hp hst
  intro T L0 X N eT
  subst hr
  have hT : Z.Warmed39 T.vm := wtrans K.2.1 X.warmed
  obtain ⟨mk, hnamed, hstep⟩ := initRef (e := e) (cc := c) X.here K.1 hT (by rw [X.warmed.alike.findClass]; exact K.2.2.1) hy1 hy w1 w2 wc (f := mkF m pc Ls (argsL.reverse ++ .ref b :: S)) rfl (a := b) (argsL := argsL) (rest := S) hlen rfl (hb K.2.2.2.1 hd)
  have hB := back (e := e) (below := below) (args := args) (len := 3) (W := (S.map fun v => v.category).sum) K Cc wc wz hf hW
  have hnS : s.methodNamed? y = some mk := by
    have := State.methodNamed?_setVm (s := Z) K.2.1.alike (x := y)
    rw [hnamed] at this
    exact this
  obtain ⟨v, ⟨T', L1, k1, n1⟩, X', ⟨Lc, hQ, l', y', z'⟩, st'⟩ := hB m meth c ⟨T, L0, ce, sl⟩ (mkF m pc Ls S) (.invokespecial i) mk (.ref b :: argsL).toArray X rfl (hz.trans K.2.2.2.2.1.symm) (hb K.2.2.2.1 hd) (by show 2 * 0 + (S.map fun v => v.category).sum ≤ _; omega) (X.named hnS) ⟨rfl, eT, hc, hsl⟩
  dsimp only [Pt.U, Pt.locs, Pt.cells, Pt.slots] at X' l' y' z' st'
  subst l' y' z'
  obtain ⟨s₂, u, L', a1, r⟩ := q v _ hQ.1 T' _ X' (Fr.app N hQ.2) rfl
  exact ⟨s₂, u, L', (hstep _ fun acts => by rw [doInvoke_state]; exact Steps.refl _).trans (st'.trans a1), r⟩
theorem pop2At {tb : Tables} [Ours tb] {e : Env} {below : List Frame} {T target : State} {m : MethodId} {c : Code} {g : JFrame} (h : At T m c below) (hx : tb.exec = Jvm.exec) (hg : g.method = m) {x : Int64} {rest : List Value} (hd : decode c.code g.pc = .ok (.pop2, 1)) (hs : g.stack = .long x :: rest)
    (hr : Steps tb e below (T.setTop { g with pc := g.pc + 1, stack := rest }) target) : Steps tb e below (T.setTop g) target := by
  subst hg
  jvm_step h [h.top, hx, hd, hs, Op.pop2.wp_sem]
  exact hr
theorem pop2L (K : Cx Z own nm bytes ml ret p s m meth c) {x : Int64} (hd : decode bytes pc = .ok (.pop2, 1)) (hp : pc + 1 = pc') (q : Go p l e R s m args below meth c n0 h ce sl (mkF m pc' Ls S) Q) : Go p l e R s m args below meth c n0 h ce sl (mkF m pc Ls (.long x :: S)) Q := by
  subst hp; exact one (fun T L X _ t => pop2At X.here K.1 rfl (hb K.2.2.2.1 hd) rfl) q
end Walk
end Jvm.OwnWp
namespace Jvm.OwnWp
open Sem ClassFile Op Lib Jvm.Stand Jvm.Free Jvm.LawKit Jvm.RoadKit
theorem plain_of {vm : Vm} {flags : Nat} {c t d : ClassId} {ck dk : Class} (h : plainAccess vm flags c ck t d dk = true) : vm.Plain flags c ck t d dk := by
  simp only [plainAccess, Bool.or_eq_true, Bool.and_eq_true, beq_iff_eq, Bool.not_eq_true'] at h
  rcases h with ((h | h) | h) | ⟨⟨⟨h1, h2⟩, h3⟩, h4⟩
  · exact Or.inl h
  · exact Or.inr (Or.inl h)
  · exact Or.inr (Or.inr (Or.inl h))
  · exact Or.inr (Or.inr (Or.inr ⟨h1, h2, h3, h4.elim (fun q => q.elim Or.inl (fun q => Or.inr (Or.inl q))) (fun q => Or.inr (Or.inr q))⟩))
/-- the word 'methodLink' on a method that a superinterface declares: the entry links, by whichever arm of access -/
theorem linkFF {args : Array Value} {s : State} {cls : String} {x : MethodName} {index d c : Nat} {ck ok : Class} {meth : Method} {mf : MethodId} (hd : s.vm.findClass cls = some d) (hc : s.vm.findClass x.cls = some c) (hck : s.vm.classes[c]? = some ck) (hvi : ck.isInterface = true) (hnone : ck.findMethod x.name x.desc = none)
    (hf : s.methodFound? x.cls x.name x.desc = some mf) (hok : s.vm.classes[mf.cls]? = some ok) (hm : ok.methods[mf.idx]? = some meth) (hx : x.cls ≠ "java/lang/invoke/MethodHandle" ∧ x.cls ≠ "java/lang/invoke/VarHandle") (hnc : x.name ≠ "clone")
    (h : (Cond.methodLink cls index x).before args s = true) (pl : Platform) (hpl : pl.magicAccessors = ({} : Platform).magicAccessors) : ∃ ci, s.vm.MethodLinksFF pl d index ci c mf ∧ s.rightAt d index (.method mf) = true := by
  have hv := Cond.before_iff.mp h
  have hmeth : s.vm.method? mf = some meth := by simp [Vm.method?, hok, hm]
  have hname : ck.name = x.cls := by obtain ⟨k, hk, hn⟩ := Vm.findClass_spec hc; cases hck.symm.trans hk; exact hn
  have hpoly : ∀ y, signaturePolymorphic ck y = false := fun y => by simp [signaturePolymorphic, hname, hx.1, hx.2]
  simp only [Cond.value, hd, hc, hf] at hv
  obtain ⟨⟨ci, via⟩, hme⟩ : ∃ q, s.memberEntry? cls index = some q := by
    cases q : s.memberEntry? cls index with
    | none => simp [q] at hv
    | some z => exact ⟨z, rfl⟩
  obtain ⟨dk, hdk, -⟩ := Vm.findClass_spec hd
  cases hcl : s.classLinks cls ci x.cls with
  | none => simp [hme, hcl] at hv
  | some linked =>
    simp only [hme, hcl, hdk, hck, hok, hmeth, Option.bind_eq_bind, Option.bind_some, Option.pure_def, Option.some.injEq, Bool.and_eq_true, beq_iff_eq, Option.isNone_iff_eq_none] at hv
    obtain ⟨⟨⟨⟨⟨⟨⟨e1, hnm⟩, hopen⟩, hvia⟩, -⟩, -⟩, hml⟩, hacc⟩ := hv
    subst e1
    have hvia' : via = true := hvia.symm.trans hvi
    subst hvia'
    obtain ⟨cr, hcr, hlinks⟩ := State.classLinks_spec hd hcl pl hpl
    cases hc.symm.trans hcr
    obtain ⟨pool, hpool, hnames⟩ := State.names_spec hnm
    obtain ⟨dk', cf, hdk', hcf, epool⟩ := State.poolOf?_spec hd hpool
    cases hdk.symm.trans hdk'
    subst epool
    obtain ⟨ci', nt, hent, hnt, -⟩ := namesOf?_method hnames
    have hent2 : ci' = ci ∧ cf.constantPool[index]? = some (.interfaceMethodref ci nt) := by
      simp only [State.memberEntry?, hpool, Option.bind_eq_bind, Option.bind_some] at hme
      rcases hent with hent | hent
      · rw [hent] at hme; simp at hme
      · rw [hent] at hme; simp at hme; exact ⟨hme, hme ▸ hent⟩
    obtain ⟨-, hcp⟩ := hent2
    have hload : dk.loader = none := by
      obtain ⟨dk2, -, -, -, q1, -, q2, -⟩ := hlinks.here
      cases hdk.symm.trans q1; exact q2
    have hne : ci ≠ index := fun q => by
      obtain ⟨dk2, cf2, nm2, -, q1, q2, -, q3, -⟩ := hlinks.here
      cases hdk.symm.trans q1
      cases hcf.symm.trans q2
      rw [q] at q3
      rw [q] at hcp
      simp [ConstantPool.className?, hcp] at q3
    have hplain : s.vm.Plain meth.accessFlags mf.cls ok c d dk := by
      simp only [Bool.or_eq_true, Bool.and_eq_true, beq_iff_eq] at hacc
      rcases hacc with q | q
      · exact plain_of q
      · exact absurd q.1.2 hnc
    exact ⟨ci, ⟨dk, cf, nt, x.name, x.desc, ck, ok, meth, hdk, hcf, hcp, hnt, hlinks, hne, hck, hvi, hpoly, hnone, State.faceFind_of_found hc hck hvi hpoly hnone hf, hok, hm, hload.trans hml.symm, hplain, State.openOr_spec hd hdk hopen⟩, by simp [State.rightAt, hdk, hcf, hnames, hf]⟩
/-- an interface does not declare what another class's method was found for -/
theorem noneOf {Z : State} {r o n d : String} {c : ClassId} {k : Class} {m : MethodId} (hro : r ≠ o) (hr : r ≠ "java/lang/invoke/MethodHandle" ∧ r ≠ "java/lang/invoke/VarHandle") (hc : Z.vm.findClass r = some c) (hk : Z.vm.classes[c]? = some k) (hf : Z.methodFound? r n d = some m) (hn : Z.methodNamed? ⟨o, n, d⟩ = some m) : (∀ y, signaturePolymorphic k y = false) ∧ k.findMethod n d = none := by
  have hname : k.name = r := by obtain ⟨k0, hk0, hq⟩ := Vm.findClass_spec hc; cases hk.symm.trans hk0; exact hq
  have hpoly : ∀ y, signaturePolymorphic k y = false := fun y => by simp [signaturePolymorphic, hname, hr.1, hr.2]
  refine ⟨hpoly, ?_⟩
  obtain ⟨ok, hok, hokname⟩ := className_of_methodNamed hn
  cases hj : k.findMethod n d with
  | none => rfl
  | some j =>
    have hlt : (k.methods[j]?).isSome := by obtain ⟨hlt, -, -⟩ := Array.findIdx?_eq_some_iff_getElem.mp hj; simp [hlt]
    have h2 := State.methodFound?_declared hc hk hpoly hj hlt
    rw [hf] at h2
    have e2 : m.cls = c := by rw [Option.some.inj h2]
    rw [e2] at hok
    cases hk.symm.trans hok
    exact absurd (hname.symm.trans hokname) hro
/-- the word 'interfaceMethod' on a method of a superinterface, under warmer tables -/
theorem faceMove {Z s : State} {a0 a1 : Array Value} (al : Z.vm.Alike s.vm) {r o n d : String} (hro : r ≠ o) (hr : r ≠ "java/lang/invoke/MethodHandle" ∧ r ≠ "java/lang/invoke/VarHandle") (h : (Cond.interfaceMethod r o n d).before a0 Z = true) : (Cond.interfaceMethod r o n d).before a1 s = true := by
  obtain ⟨c, k, m, hc, hk, hi, hf, hn⟩ := Cond.interfaceMethod_spec h
  obtain ⟨hpoly, hnone⟩ := noneOf hro hr hc hk hf hn
  obtain ⟨ok, hok, -⟩ := className_of_methodNamed hn
  obtain ⟨k', hk', ek⟩ := al.2.2 _ _ hk
  obtain ⟨ok', hok', -⟩ := al.2.2 _ _ hok
  have hc' : s.vm.findClass r = some c := by rw [al.findClass]; exact hc
  have hff : s.vm.faceFind c n d = some m := by rw [al.faceFind]; exact State.faceFind_of_found hc hk hi hpoly hnone hf
  have hi' : k'.isInterface = true := by rw [ek]; exact hi
  have hf' : s.methodFound? r n d = some m := State.methodFound?_faceFind hc' hk' hi' (by rw [ek]; exact hpoly) (by rw [ek]; exact hnone) hff hok'
  have hn' : s.methodNamed? ⟨o, n, d⟩ = some m := by
    have := State.methodNamed?_setVm (s := Z) al (x := ⟨o, n, d⟩)
    rw [hn] at this
    exact this
  exact Cond.before_iff.mpr (by simp [Cond.value, hc', hf', hn', hk', hi'])
section Walk
variable {p : Program} {l : Launch} {e : Env} {R : Room} {s : State} {m : MethodId} {args : Array Value} {below : List Frame} {meth : Method} {c : Code} {Z : State} {a0 : Array Value} {own nm : String} {bytes : ByteArray} {ml : Nat} {ret : Option FieldType} {n0 ce sl pc pc' : Nat} {h : Heap} {Ls Ls' : Array Slot} {S : List Value} {Q : Option Value → Heap → Prop}
theorem faceStep {T : State} {locs : List Loc} {cells slots : Nat} (X : Stand p l e R s m args below meth c T locs cells slots) (hexec : p.tables.exec = Jvm.exec) {J C : String} {index count : Nat} {x y : MethodName} (hown : s.vm.findClass own = some m.cls) (hlink : (Cond.methodLink own index x).before a0 s = true)
    (hface : (Cond.interfaceMethod x.cls J x.name x.desc).before a0 s = true) (hdecl : (Cond.declares ⟨J, x.name, x.desc⟩).before a0 s = true) (hxo : x.cls ≠ J) (hnc : x.name ≠ "clone") (hx : x.cls ≠ "java/lang/invoke/MethodHandle" ∧ x.cls ≠ "java/lang/invoke/VarHandle")
    (hsel : (Cond.selects C x y).before a0 s = true) (hinst : (Cond.instanceMethod y).before a0 s = true) (hpub : (Cond.publicMethod y).before a0 s = true) (hunh : (Cond.unhidden C x.name x.desc).before a0 s = true) (hcast : (Cond.castable C x.cls).before a0 s = true)
    {b : Addr} {cB : ClassId} {kB : Class} (hcB : s.vm.findClass C = some cB) (hkB : s.vm.classes[cB]? = some kB) (hrecv : IsOf cB T b)
    {g : JFrame} (hg : g.method = m) {argsL rest : List Value} (hlen : ∀ sig, parseMethodDescriptor x.desc = some sig → argsL.length = sig.parameters.length) (hstack : g.stack = argsL.reverse ++ .ref b :: rest) (hdg : decode c.code g.pc = .ok (.invokeinterface index count, 5)) :
    ∃ mk vm', s.methodNamed? y = some mk ∧ Stand p l e R s m args below meth c (T.setVm vm') locs cells slots ∧ ∀ target, (∀ acts, Steps p.tables e below (doInvoke e ((T.setVm vm').setTop { g with stack := rest }) acts mk (.ref b :: argsL).toArray).1 target) → Steps p.tables e below (T.setTop g) target := by
  subst hg
  obtain ⟨cell, hcell, hcls, hstat⟩ := hrecv
  obtain ⟨r0, r, hn, hrm, hstR, hsigR⟩ := Cond.declares_spec hdecl
  obtain ⟨ok, hok, hokname⟩ := className_of_methodNamed hn
  obtain ⟨hnameR, hdescR⟩ := name_of_methodNamed hn hrm
  obtain ⟨cI, kI, r1, hcI, hkI, hiI, hfound, hn1⟩ := Cond.interfaceMethod_spec hface
  cases hn.symm.trans hn1
  obtain ⟨mk, mth, hnamed, hmth, -, habs⟩ := Cond.instanceMethod_spec hinst
  obtain ⟨c2, r2, m2, q1, q2, q3, q4, -⟩ := Cond.selects_spec hsel
  cases hcB.symm.trans q1
  cases hfound.symm.trans q2
  cases hnamed.symm.trans q3
  obtain ⟨c3, t3, w1, w2, w3⟩ := Cond.castable_spec hcast
  cases hcB.symm.trans w1
  cases hcI.symm.trans w2
  obtain ⟨-, hnone⟩ := noneOf hxo hx hcI hkI hfound hn
  have hpl : e.platform.magicAccessors = ({} : Platform).magicAccessors := by rw [X.admits.platform]
  obtain ⟨ci, hl, hright⟩ := linkFF hown hcI hkI hiI hnone hfound hok (by simpa [Vm.method?, hok] using hrm) hx hnc hlink e.platform hpl
  have hE : s.MethodEntryUp e T.vm g.method.cls index cI r0 ci := State.methodEntryFF X.warmed hl hright
  obtain ⟨dk, cfile, nt, -, -, ck, -, -, hd, hcf, hcp, -, -, -, hck, hvia, -⟩ := hl.here
  cases hkI.symm.trans hck
  have al := hE.warmed.alike
  obtain ⟨dk2, hdk2, hres⟩ := hE.classReady
  obtain ⟨dk3, hdk3, hed⟩ := al.2.2 _ _ hd
  cases hdk2.symm.trans hdk3
  obtain ⟨ck2, hck2, hec⟩ := al.2.2 _ _ hck
  obtain ⟨kB2, hkB2, -⟩ := al.2.2 _ _ hkB
  have hway : ((cell.cls :: s.vm.superclasses cell.cls).any fun k => (declaredIn s.vm r.name r.desc k).any fun (_, z) => z.isPrivate || z.isStatic) = false := by
    rw [hnameR, hdescR, hcls]; exact Cond.unhidden_spec hcB hunh
  refine ⟨mk, T.vm.calledUp g.method.cls ci index cI r0, hnamed, X.noted hE.warmed, fun target hrest => ?_⟩
  jvm_step X.here [hexec, hdg, invokeinterface.wp_coldFace (e := e) (s := T) (s₀ := s) (f := g) (count := count) X.here.top X.warmed hE hd hcf (Or.inr hcp) hck hvia,
    invokeinterface.wp_ready (e := e) (s := T.setVm (T.vm.calledUp g.method.cls ci index cI r0)) (f := g) (count := count) (r := r) (meth := mth) (m := mk) (args := argsL) (rest := rest) (cell := cell) (kcell := kB2) (ck := dk2) (nk := ck2) (cf := cfile) (ci := ci) (nt := nt) (named := cI)
      X.here.top hE.ready (by show (T.vm.calledUp g.method.cls ci index cI r0).method? r0 = some r; rw [al.method?]; exact hrm) hstR (hlen _ hsigR) hstack hcell (fun z q => by rw [q] at hstat; cases hstat) (by rw [hcls]; exact hkB2) hdk2 (by rw [hed]; exact hcf) hcp hres hck2 (by rw [hec]; exact hvia)
      (by show (T.vm.calledUp g.method.cls ci index cI r0).assignable cell.cls cI = true; rw [al.assignable, hcls]; exact w3)
      (by show selectMethod e.platform (T.vm.calledUp g.method.cls ci index cI r0) cell.cls r0 = .method mk; rw [al.selectMethod, Launch.admits_selectMethod X.admits, hcls]; exact q4)
      (by show (T.vm.calledUp g.method.cls ci index cI r0).method? mk = some mth; rw [al.method?]; exact hmth)
      (Or.inr (Or.inr (by show ((cell.cls :: (T.vm.calledUp g.method.cls ci index cI r0).superclasses cell.cls).any fun k => (declaredIn (T.vm.calledUp g.method.cls ci index cI r0) r.name r.desc k).any fun (_, y) => y.isPrivate || y.isStatic) = false; simp only [al.superclasses, al.declaredIn]; exact hway)))
      (Or.inl (Cond.publicMethod_spec hnamed hmth hpub)) habs]
  exact hrest
theorem callFaceUp (K : Cx Z own nm bytes ml ret p s m meth c) {i cnt : Nat} {y z : MethodName} {J C : String} {by' : ByteArray} {ml' : Nat} {ret' : Option FieldType} {rm : Room} {Q' : Option Value → Heap → Prop} {b : Addr} {argsL : List Value} (w1 : (Cond.methodLink own i y).before a0 Z = true) (w2 : (Cond.declares ⟨J, y.name, y.desc⟩).before a0 Z = true) (w5 : (Cond.interfaceMethod y.cls J y.name y.desc).before a0 Z = true) (hxo : y.cls ≠ J) (hnc : y.name ≠ "clone") (w3 : (Cond.selects C y z).before a0 Z = true) (w4 : (Cond.instanceMethod z).before a0 Z = true) (w6 : (Cond.publicMethod z).before a0 Z = true) (w7 : (Cond.unhidden C y.name y.desc).before a0 Z = true) (w8 : (Cond.castable C y.cls).before a0 Z = true) (wz : (Cond.initialized z.cls).before a0 Z = true) (wc : (Cond.code z by' ml' ret').before a0 Z = true) (hy : y.cls ≠ "java/lang/invoke/MethodHandle" ∧ y.cls ≠ "java/lang/invoke/VarHandle") (E : Exa Z h b C) (Cc : Ctr l Z z by' ml' ret' [] rm n0 (.ref b :: argsL).toArray h Q') (hlen : ∀ sig, parseMethodDescriptor y.desc = some sig → argsL.length = sig.parameters.length) (hd : decode bytes pc = .ok (.invokeinterface i cnt, 5)) (hz : Ls.size = ml) (hf : rm.frames + 1 ≤ R.frames) (hW : (S.map fun v => v.category).sum + (ml' + 11) + rm.locals ≤ R.locals) (hc : ce + rm.cells ≤ R.cells) (hsl : sl + rm.slots ≤ R.slots) {st : List Value} (hst : st = (argsL.reverse ++ .ref b :: S)) (hp : pc + 5 = pc') (q : ∀ v h', Q' v h' → Go p l e R s m args below meth c n0 h' (ce + rm.cells) (sl + rm.slots) (mkF m pc' Ls (v.toList ++ S)) Q) : Go p l e R s m args below meth c n0 h ce sl (mkF m pc Ls st) Q := by
  subst hp hst
  intro T L0 X N eT
  obtain ⟨cq, kq, qa, qb, qc⟩ := isOf K.2.1 eT E
  obtain ⟨mk, vm', hnS, X2, hstep⟩ := faceStep (a0 := #[]) X K.1 (y := z) K.2.2.1 (mvT K.2.1 w1) (faceMove K.2.1.alike hxo hy w5) (mvT K.2.1 w2) hxo hnc hy (mvT K.2.1 w3) (mvT K.2.1 w4) (mvT K.2.1 w6) (mvT K.2.1 w7) (mvT K.2.1 w8) qa qb qc (g := mkF m pc Ls (argsL.reverse ++ .ref b :: S)) rfl (argsL := argsL) (rest := S) hlen rfl (hb K.2.2.2.1 hd)
  have hB := back (e := e) (below := below) (args := args) (len := 5) (W := (S.map fun v => v.category).sum) K Cc wc wz hf hW
  obtain ⟨v, ⟨T', L1, k1, n1⟩, X', ⟨Lc, hQ, l', y', z'⟩, st'⟩ := hB m meth c ⟨T.setVm vm', L0, ce, sl⟩ (mkF m pc Ls S) (.invokeinterface i cnt) mk (.ref b :: argsL).toArray X2 rfl (hz.trans K.2.2.2.2.1.symm) (hb K.2.2.2.1 hd) (by show 2 * 0 + (S.map fun v => v.category).sum ≤ _; omega) (X2.named hnS) ⟨rfl, eT, hc, hsl⟩
  dsimp only [Pt.U, Pt.locs, Pt.cells, Pt.slots] at X' l' y' z' st'
  subst l' y' z'
  obtain ⟨s₂, u, L', a1, r⟩ := q v _ hQ.1 T' _ X' (Fr.app N hQ.2) rfl
  exact ⟨s₂, u, L', (hstep _ fun acts => by rw [doInvoke_state]; exact Steps.refl _).trans (st'.trans a1), r⟩
end Walk
end Jvm.OwnWp
namespace Jvm.OwnWp
open Sem ClassFile Op Lib Jvm.Stand Jvm.Free Jvm.LawKit Jvm.RoadKit
/-- the Class object of the class C has been made -/
def MirAt (Z : State) (C : String) (mr : Addr) : Prop := ∃ (c : ClassId) (k : Class), Z.vm.findClass C = some c ∧ Z.vm.classes[c]? = some k ∧ k.mirror = some mr
section Walk
variable {p : Program} {l : Launch} {e : Env} {R : Room} {s : State} {m : MethodId} {args : Array Value} {below : List Frame} {meth : Method} {c : Code} {Z : State} {a0 : Array Value} {own nm : String} {bytes : ByteArray} {ml : Nat} {ret : Option FieldType} {n0 ce sl pc pc' : Nat} {h : Heap} {Ls Ls' : Array Slot} {S : List Value} {Q : Option Value → Heap → Prop}
theorem gclsA (K : Cx Z own nm bytes ml ret p s m meth c) {i : Nat} {C : String} {a mr : Addr} (w1 : (Cond.methodLink own i ⟨"java/lang/Object", "getClass", "()Ljava/lang/Class;"⟩).before a0 Z = true) (w2 : (Cond.declares ⟨"java/lang/Object", "getClass", "()Ljava/lang/Class;"⟩).before a0 Z = true) (w4 : (Cond.selects C ⟨"java/lang/Object", "getClass", "()Ljava/lang/Class;"⟩ ⟨"java/lang/Object", "getClass", "()Ljava/lang/Class;"⟩).before a0 Z = true) (w5 : (Cond.instanceMethod ⟨"java/lang/Object", "getClass", "()Ljava/lang/Class;"⟩).before a0 Z = true) (w6 : (Cond.native ⟨"java/lang/Object", "getClass", "()Ljava/lang/Class;"⟩).before a0 Z = true) (E : Exa Z h a C) (M : MirAt Z C mr) (hd : decode bytes pc = .ok (.invokevirtual i, 3)) (hz : Ls.size = ml) (hf : 1 ≤ R.frames) (hW : (S.map fun v => v.category).sum + 14 ≤ R.locals) (hp : pc + 3 = pc') (q : Go p l e R s m args below meth c n0 h ce sl (mkF m pc' Ls (.ref mr :: S)) Q) : Go p l e R s m args below meth c n0 h ce sl (mkF m pc Ls (.ref a :: S)) Q := by
  subst hp
  refine oneT (fun T L X eT => ?_) q
  obtain ⟨cB, kB, i1, i2, i3⟩ := isOf K.2.1 eT E
  obtain ⟨cc, kc, m1, m2, m3⟩ := M
  rw [K.2.1.alike.findClass] at i1
  cases i1.symm.trans m1
  obtain ⟨k', q', ek⟩ := K.2.1.alike.2.2 _ _ m2
  have hs := mvT (args := args) K.2.1 w4
  obtain ⟨vm', X', st⟩ := X.getClassOf K.1 K.2.2.1 (mvT K.2.1 w1) (mvT K.2.1 w2) (notFace_of_selects hs) hs (mvT K.2.1 w5) (mvT K.2.1 w6) (by rw [K.2.1.alike.findClass]; exact m1) i3 q' (by rw [ek]; exact m3) (g := mkF m pc Ls (.ref a :: S)) rfl (hz.trans K.2.2.2.2.1.symm) (rest := S) rfl (hb K.2.2.2.1 hd) hf (by show 2 * 0 + _ + (3 + 11) ≤ _; omega)
  exact ⟨_, X', eT, st⟩
theorem ldcMir (K : Cx Z own nm bytes ml ret p s m meth c) {i : Nat} {C : String} {mr : Addr} (w : (Cond.classLink own i C).before a0 Z = true) (M : MirAt Z C mr) (hd : decode bytes pc = .ok (.ldc i, 2)) (hp : pc + 2 = pc') (q : Go p l e R s m args below meth c n0 h ce sl (mkF m pc' Ls (.ref mr :: S)) Q) : Go p l e R s m args below meth c n0 h ce sl (mkF m pc Ls S) Q := by
  subst hp
  refine oneT (fun T L X eT => ?_) q
  obtain ⟨cc, kc, m1, m2, m3⟩ := M
  obtain ⟨k', q', ek⟩ := K.2.1.alike.2.2 _ _ m2
  have m1' : s.vm.findClass C = some cc := by rw [K.2.1.alike.findClass]; exact m1
  have m3' : k'.mirror = some mr := by rw [ek]; exact m3
  obtain ⟨vm', X', st⟩ := X.ldcMirror K.1 K.2.2.1 (mvT K.2.1 w) (a := mr) (by simp [Term.eval, m1', q', m3']) (g := mkF m pc Ls S) rfl (hb K.2.2.2.1 hd)
  exact ⟨_, X', eT, st⟩
theorem newArrRX (K : Cx Z own nm bytes ml ret p s m meth c) {k : Nat} {C ad : String} {n : Int32} {N : Nat} (w1 : (Cond.classLink own k C).before a0 Z = true) (w2 : (Cond.arrayOver (.object C)).before a0 Z = true) (had : "[" ++ (FieldType.object C).toString = ad) (hn : n.toInt = N) (hb : N * 8 ≤ 536870912) (hd : decode bytes pc = .ok (.anewarray k, 3)) (hc : ce + 1 ≤ R.cells) (hl : sl + N ≤ R.slots) (hp : pc + 3 = pc') (q : ∀ h' x, x = h.size → Ext h h' → VecR Z h' x C (List.replicate N .null) → Exa Z h' x ad → Go p l e R s m args below meth c n0 h' (ce + 1) (sl + N) (mkF m pc' Ls (.ref x :: S)) Q) : Go p l e R s m args below meth c n0 h ce sl (mkF m pc Ls (.int n :: S)) Q := by
  subst hp
  obtain ⟨c1, c2⟩ := clamp hn
  intro T L0 X N0 eT
  obtain ⟨T', h', cA, X', e', E, A, B, O, st⟩ := newRE X K.1 K.2.1 K.2.2.1 w1 w2 eT (g := mkF m pc Ls (.int n :: S)) rfl (Jvm.hb K.2.2.2.1 hd) rfl c2 (cap := N) (Nat.le_of_eq c1) hb hc hl had
  obtain ⟨s₂, u, L', a1, r⟩ := q h' h.size rfl E ⟨_, A, by simp [newA, c1, defaultValue], by simp; omega, O⟩ B T' _ X' N0 e'
  exact ⟨s₂, u, L', st _ a1, r⟩
/-- System.arraycopy between arrays of Objects -/
theorem acopyR (K : Cx Z own nm bytes ml ret p s m meth c) {i : Nat} {a b : Addr} {xs ys : List Value} {sp dp n : Int32} {P D N : Nat} (w1 : (Cond.methodLink own i ⟨"java/lang/System", "arraycopy", "(Ljava/lang/Object;ILjava/lang/Object;II)V"⟩).before a0 Z = true) (w2 : (Cond.native ⟨"java/lang/System", "arraycopy", "(Ljava/lang/Object;ILjava/lang/Object;II)V"⟩).before a0 Z = true) (w3 : (Cond.static ⟨"java/lang/System", "arraycopy", "(Ljava/lang/Object;ILjava/lang/Object;II)V"⟩).before a0 Z = true) (w4 : (Cond.initialized "java/lang/System").before a0 Z = true) (F : VecR Z h a "java/lang/Object" xs) (G : VecR Z h b "java/lang/Object" ys) (e1 : sp.toInt = P) (e2 : dp.toInt = D) (e3 : n.toInt = N) (h4 : P + N ≤ xs.length) (h5 : D + N ≤ ys.length) (hel : ∀ v ∈ xs, v = .null ∨ ∃ r C, v = .ref r ∧ Exa Z h r C ∧ Ins Z h r "java/lang/Object" true) (ga : n0 ≤ b) (hd : decode bytes pc = .ok (.invokestatic i, 3)) (hz : Ls.size = ml) (hf : 1 ≤ R.frames) (hW : (S.map fun v => v.category).sum + 18 ≤ R.locals) (hp : pc + 3 = pc')
    (q : ∀ h' zs, Keep h h' [b] → VecR Z h' b "java/lang/Object" zs → zs.length = ys.length → (∀ k, zs[k]? = if D ≤ k ∧ k < D + N then xs[P + (k - D)]? else ys[k]?) → Go p l e R s m args below meth c n0 h' ce sl (mkF m pc' Ls S) Q) : Go p l e R s m args below meth c n0 h ce sl (mkF m pc Ls (.int n :: .int dp :: .ref b :: .int sp :: .ref a :: S)) Q := by
  subst hp
  obtain ⟨cs, A, rfl, lx, ks0, cmS, hks0, hkk, hfo⟩ := F
  obtain ⟨cd, B, rfl, ly, kd0, cmD, hkd0, hkd, hfo'⟩ := G
  cases hfo.symm.trans hfo'
  obtain ⟨c1, c1'⟩ := clamp e1
  obtain ⟨c2, c2'⟩ := clamp e2
  obtain ⟨c3, c3'⟩ := clamp e3
  intro T L0 X N0 eT
  subst eT
  obtain ⟨ks, q1, ek⟩ := K.2.1.alike.2.2 _ _ hks0
  obtain ⟨kd, q2, ek2⟩ := K.2.1.alike.2.2 _ _ hkd0
  have hkO : ∃ kO, Z.vm.classes[cmS]? = some kO := by obtain ⟨kO, hkO, -⟩ := Vm.findClass_spec hfo; exact ⟨kO, hkO⟩
  simp only [Array.length_toList] at h4 h5 lx ly
  obtain ⟨vm₁, hw1, X', st⟩ := X.arraycopyK K.1 K.2.2.1 (mvT K.2.1 w1) (mvT K.2.1 w2) (mvT K.2.1 w3) (mvT K.2.1 w4) (src := a) (dst := b) (srcPos := sp) (destPos := dp) (n := n) A.1 B.1 A.2.1.1 B.2.1.1 A.2.2 B.2.2 q1 q2 (sComp := cmS) (dComp := cmS) (by rw [ek]; exact hkk) (by rw [ek2]; exact hkd) rfl c1' c2' c3' (by omega) (by omega)
    (fun vmx hwx i hi => by
      have hi' : P + i < cs.slots.size := by omega
      have hm : cs.slots.getD (sp.toNatClampNeg + i) .null ∈ cs.slots.toList := by rw [c1, Array.getD, dif_pos hi']; simp
      rcases hel _ hm with hv | ⟨r, C, hv, ⟨cell, k, x1, x2, x3, x4, -⟩, ⟨cell', cT, y1, y2, y3⟩⟩
      · rw [hv]; exact ⟨rfl, trivial⟩
      · rw [hv]
        cases x1.symm.trans y1
        cases hfo.symm.trans y2
        simp only [Bool.and_eq_true] at y3
        have al := K.2.1.alike.trans hwx.alike
        obtain ⟨k2, z2, -⟩ := al.2.2 _ _ x3
        obtain ⟨kO, hkO⟩ := hkO
        obtain ⟨k3, z3, -⟩ := al.2.2 _ _ hkO
        exact ⟨rfl, cell, x1, fun kk hq => (by rw [hq] at x4; cases x4), ⟨k2, z2⟩, ⟨k3, z3⟩, (al.assignable _ _).trans y3.2⟩)
    (g := mkF m pc Ls (.int n :: .int dp :: .ref b :: .int sp :: .ref a :: S)) rfl (hz.trans K.2.2.2.2.1.symm) (rest := S) rfl (hb K.2.2.2.1 hd) hf (by show 2 * 0 + _ + (7 + 11) ≤ _; omega)
  obtain ⟨f1, f2, f3, -, -⟩ := Cell.storeRun_facts cd dp.toNatClampNeg (cs.stretch sp.toNatClampNeg n.toNatClampNeg)
  have hlen : (cs.stretch sp.toNatClampNeg n.toNatClampNeg).length = N := by simp [Cell.stretch, c3]
  have hbs : b < T.heap.size := (Array.getElem?_eq_some_iff.mp B.1).1
  have hself : (((T.setVm vm₁).setCell b (copied cs cd sp dp n))).heap[b]? = some (copied cs cd sp dp n) := State.heap_setCell_self (s := T.setVm vm₁) B.1
  have hoth : ∀ x, x ≠ b → (((T.setVm vm₁).setCell b (copied cs cd sp dp n))).heap[x]? = T.heap[x]? := fun x hx => State.heap_setCell_other (s := T.setVm vm₁) (Ne.symm hx)
  obtain ⟨s₂, u, L', a1, r⟩ := q (((T.setVm vm₁).setCell b (copied cs cd sp dp n))).heap (copied cs cd sp dp n).slots.toList
    ⟨by show T.heap.size ≤ (T.heap.setIfInBounds b _).size; simp, fun x cx hx hn => by rw [hoth x (fun e => hn (by simp [e]))]; exact hx, fun x cx hx => by
      by_cases hxb : x = b
      · subst hxb; cases hx.symm.trans B.1; exact ⟨_, hself, f1, f2, f3⟩
      · exact ⟨cx, by rw [hoth x hxb]; exact hx, rfl, rfl, rfl⟩⟩
    ⟨_, ⟨hself, ⟨fun kk hq => B.2.1.1 kk (by rw [← f2]; exact hq), by rw [f1]; exact B.2.1.2⟩, by rw [f2]; exact B.2.2⟩, rfl, by rw [Array.length_toList, f3]; omega, ⟨kd0, cmS, by rw [f1]; exact hkd0, hkd, hfo⟩⟩
    (by rw [Array.length_toList, Array.length_toList, f3])
    (fun k => by
      rw [Array.getElem?_toList, Cell.storeRun_get cd _ _ _ (by rw [hlen, c2]; exact h5), hlen, c2]
      split
      · rename_i hk
        conv => rhs; rw [Array.getElem?_toList]
        have h6 : P + (k - D) < cs.slots.size := by omega
        simp only [Cell.stretch, c1, c3, List.getElem?_map, List.getElem?_range (show k - D < N by omega), Option.map_some, Array.getD, dif_pos h6]
        exact (Array.getElem?_eq_getElem h6).symm
      · rw [Array.getElem?_toList])
    _ _ X' (N0.app fun y hy => by rw [copyLocs_base hy]; exact ga) rfl
  exact ⟨s₂, u, L', st _ a1, r⟩
end Walk
end Jvm.OwnWp
namespace Jvm.Pilot.@@N@@
open Jvm Jvm.ClassFile Sem Op Lib Jvm.Free Jvm.Stand Jvm.LawKit Jvm.RoadKit Bundle Jvm.Pilot.@@N@@.Jvm.D Jvm.OwnWp

theorem d_jdk_21_method_10_0 : decode jdk_21_method_10_code 0 = .ok (.aload_n 0, 1) := by decide +kernel
theorem d_jdk_21_method_10_1 : decode jdk_21_method_10_code 1 = .ok (.iload_n 1, 1) := by decide +kernel
theorem d_jdk_21_method_10_2 : decode jdk_21_method_10_code 2 = .ok (.aaload, 1) := by decide +kernel
theorem d_jdk_21_method_10_3 : decode jdk_21_method_10_code 3 = .ok (.areturn, 1) := by decide +kernel
theorem d_jdk_21_method_13_0 : decode jdk_21_method_13_code 0 = .ok (.aload_n 1, 1) := by decide +kernel
theorem d_jdk_21_method_13_1 : decode jdk_21_method_13_code 1 = .ok (.ifnonnull 11, 3) := by decide +kernel
theorem d_jdk_21_method_13_12 : decode jdk_21_method_13_code 12 = .ok (.aload_n 0, 1) := by decide +kernel
theorem d_jdk_21_method_13_13 : decode jdk_21_method_13_code 13 = .ok (.getfield 3, 3) := by decide +kernel
theorem d_jdk_21_method_13_16 : decode jdk_21_method_13_code 16 = .ok (.astore_n 2, 1) := by decide +kernel
theorem d_jdk_21_method_13_17 : decode jdk_21_method_13_code 17 = .ok (.aload_n 2, 1) := by decide +kernel
theorem d_jdk_21_method_13_18 : decode jdk_21_method_13_code 18 = .ok (.aload_n 0, 1) := by decide +kernel
theorem d_jdk_21_method_13_19 : decode jdk_21_method_13_code 19 = .ok (.getfield 20, 3) := by decide +kernel
theorem d_jdk_21_method_13_22 : decode jdk_21_method_13_code 22 = .ok (.aload_n 1, 1) := by decide +kernel
theorem d_jdk_21_method_13_23 : decode jdk_21_method_13_code 23 = .ok (.aastore, 1) := by decide +kernel
theorem d_jdk_21_method_13_24 : decode jdk_21_method_13_code 24 = .ok (.aload_n 0, 1) := by decide +kernel
theorem d_jdk_21_method_13_25 : decode jdk_21_method_13_code 25 = .ok (.getfield 24, 3) := by decide +kernel
theorem d_jdk_21_method_13_28 : decode jdk_21_method_13_code 28 = .ok (.aload_n 0, 1) := by decide +kernel
theorem d_jdk_21_method_13_29 : decode jdk_21_method_13_code 29 = .ok (.aload_n 0, 1) := by decide +kernel
theorem d_jdk_21_method_13_30 : decode jdk_21_method_13_code 30 = .ok (.getfield 20, 3) := by decide +kernel
theorem d_jdk_21_method_13_33 : decode jdk_21_method_13_code 33 = .ok (.aload_n 2, 1) := by decide +kernel
theorem d_jdk_21_method_13_34 : decode jdk_21_method_13_code 34 = .ok (.arraylength, 1) := by decide +kernel
theorem d_jdk_21_method_13_35 : decode jdk_21_method_13_code 35 = .ok (.invokestatic 74, 3) := by decide +kernel
theorem d_jdk_21_method_13_38 : decode jdk_21_method_13_code 38 = .ok (.dup_x1, 1) := by decide +kernel
theorem d_jdk_21_method_13_39 : decode jdk_21_method_13_code 39 = .ok (.putfield 20, 3) := by decide +kernel
theorem d_jdk_21_method_13_42 : decode jdk_21_method_13_code 42 = .ok (.if_icmp .ne 8, 3) := by decide +kernel
theorem d_jdk_21_method_13_45 : decode jdk_21_method_13_code 45 = .ok (.aload_n 0, 1) := by decide +kernel
theorem d_jdk_21_method_13_46 : decode jdk_21_method_13_code 46 = .ok (.iconst 1, 1) := by decide +kernel
theorem d_jdk_21_method_13_47 : decode jdk_21_method_13_code 47 = .ok (.invokevirtual 71, 3) := by decide +kernel
theorem d_jdk_21_method_13_50 : decode jdk_21_method_13_code 50 = .ok (.return_, 1) := by decide +kernel
theorem d_jdk_21_method_18_0 : decode jdk_21_method_18_code 0 = .ok (.aload_n 0, 1) := by decide +kernel
theorem d_jdk_21_method_18_1 : decode jdk_21_method_18_code 1 = .ok (.invokevirtual 93, 3) := by decide +kernel
theorem d_jdk_21_method_18_4 : decode jdk_21_method_18_code 4 = .ok (.astore_n 1, 1) := by decide +kernel
theorem d_jdk_21_method_18_5 : decode jdk_21_method_18_code 5 = .ok (.aload_n 1, 1) := by decide +kernel
theorem d_jdk_21_method_18_6 : decode jdk_21_method_18_code 6 = .ok (.ifnonnull 11, 3) := by decide +kernel
theorem d_jdk_21_method_18_17 : decode jdk_21_method_18_code 17 = .ok (.aload_n 1, 1) := by decide +kernel
theorem d_jdk_21_method_18_18 : decode jdk_21_method_18_code 18 = .ok (.areturn, 1) := by decide +kernel
theorem d_jdk_21_method_1_0 : decode jdk_21_method_1_code 0 = .ok (.aload_n 0, 1) := by decide +kernel
theorem d_jdk_21_method_1_1 : decode jdk_21_method_1_code 1 = .ok (.getfield 3, 3) := by decide +kernel
theorem d_jdk_21_method_1_4 : decode jdk_21_method_1_code 4 = .ok (.arraylength, 1) := by decide +kernel
theorem d_jdk_21_method_1_5 : decode jdk_21_method_1_code 5 = .ok (.istore_n 2, 1) := by decide +kernel
theorem d_jdk_21_method_1_6 : decode jdk_21_method_1_code 6 = .ok (.iload_n 2, 1) := by decide +kernel
theorem d_jdk_21_method_1_7 : decode jdk_21_method_1_code 7 = .ok (.bipush 64, 2) := by decide +kernel
theorem d_jdk_21_method_1_9 : decode jdk_21_method_1_code 9 = .ok (.if_icmp .ge 9, 3) := by decide +kernel
theorem d_jdk_21_method_1_12 : decode jdk_21_method_1_code 12 = .ok (.iload_n 2, 1) := by decide +kernel
theorem d_jdk_21_method_1_13 : decode jdk_21_method_1_code 13 = .ok (.iconst 2, 1) := by decide +kernel
theorem d_jdk_21_method_1_14 : decode jdk_21_method_1_code 14 = .ok (.iadd, 1) := by decide +kernel
theorem d_jdk_21_method_1_15 : decode jdk_21_method_1_code 15 = .ok (.goto 6, 3) := by decide +kernel
theorem d_jdk_21_method_1_21 : decode jdk_21_method_1_code 21 = .ok (.istore 4, 2) := by decide +kernel
theorem d_jdk_21_method_1_23 : decode jdk_21_method_1_code 23 = .ok (.iload 4, 2) := by decide +kernel
theorem d_jdk_21_method_1_25 : decode jdk_21_method_1_code 25 = .ok (.iload_n 1, 1) := by decide +kernel
theorem d_jdk_21_method_1_26 : decode jdk_21_method_1_code 26 = .ok (.if_icmp .lt 15, 3) := by decide +kernel
theorem d_jdk_21_method_1_29 : decode jdk_21_method_1_code 29 = .ok (.iload_n 2, 1) := by decide +kernel
theorem d_jdk_21_method_1_30 : decode jdk_21_method_1_code 30 = .ok (.iload 4, 2) := by decide +kernel
theorem d_jdk_21_method_1_32 : decode jdk_21_method_1_code 32 = .ok (.iadd, 1) := by decide +kernel
theorem d_jdk_21_method_1_33 : decode jdk_21_method_1_code 33 = .ok (.dup, 1) := by decide +kernel
theorem d_jdk_21_method_1_34 : decode jdk_21_method_1_code 34 = .ok (.istore_n 3, 1) := by decide +kernel
theorem d_jdk_21_method_1_35 : decode jdk_21_method_1_code 35 = .ok (.ldc 9, 2) := by decide +kernel
theorem d_jdk_21_method_1_37 : decode jdk_21_method_1_code 37 = .ok (.isub, 1) := by decide +kernel
theorem d_jdk_21_method_1_38 : decode jdk_21_method_1_code 38 = .ok (.ifCond .le 11, 3) := by decide +kernel
theorem d_jdk_21_method_1_49 : decode jdk_21_method_1_code 49 = .ok (.aload_n 0, 1) := by decide +kernel
theorem d_jdk_21_method_1_50 : decode jdk_21_method_1_code 50 = .ok (.aload_n 0, 1) := by decide +kernel
theorem d_jdk_21_method_1_51 : decode jdk_21_method_1_code 51 = .ok (.getfield 3, 3) := by decide +kernel
theorem d_jdk_21_method_1_54 : decode jdk_21_method_1_code 54 = .ok (.iload_n 3, 1) := by decide +kernel
theorem d_jdk_21_method_1_55 : decode jdk_21_method_1_code 55 = .ok (.invokestatic 14, 3) := by decide +kernel
theorem d_jdk_21_method_1_58 : decode jdk_21_method_1_code 58 = .ok (.dup_x1, 1) := by decide +kernel
theorem d_jdk_21_method_1_59 : decode jdk_21_method_1_code 59 = .ok (.putfield 3, 3) := by decide +kernel
theorem d_jdk_21_method_1_62 : decode jdk_21_method_1_code 62 = .ok (.astore 5, 2) := by decide +kernel
theorem d_jdk_21_method_1_64 : decode jdk_21_method_1_code 64 = .ok (.aload_n 0, 1) := by decide +kernel
theorem d_jdk_21_method_1_65 : decode jdk_21_method_1_code 65 = .ok (.getfield 20, 3) := by decide +kernel
theorem d_jdk_21_method_1_68 : decode jdk_21_method_1_code 68 = .ok (.aload_n 0, 1) := by decide +kernel
theorem d_jdk_21_method_1_69 : decode jdk_21_method_1_code 69 = .ok (.getfield 24, 3) := by decide +kernel
theorem d_jdk_21_method_1_72 : decode jdk_21_method_1_code 72 = .ok (.if_icmp .lt 24, 3) := by decide +kernel
theorem d_jdk_21_method_1_75 : decode jdk_21_method_1_code 75 = .ok (.aload_n 0, 1) := by decide +kernel
theorem d_jdk_21_method_1_76 : decode jdk_21_method_1_code 76 = .ok (.getfield 20, 3) := by decide +kernel
theorem d_jdk_21_method_1_79 : decode jdk_21_method_1_code 79 = .ok (.aload_n 0, 1) := by decide +kernel
theorem d_jdk_21_method_1_80 : decode jdk_21_method_1_code 80 = .ok (.getfield 24, 3) := by decide +kernel
theorem d_jdk_21_method_1_83 : decode jdk_21_method_1_code 83 = .ok (.if_icmp .ne 81, 3) := by decide +kernel
theorem d_jdk_21_method_1_86 : decode jdk_21_method_1_code 86 = .ok (.aload 5, 2) := by decide +kernel
theorem d_jdk_21_method_1_88 : decode jdk_21_method_1_code 88 = .ok (.aload_n 0, 1) := by decide +kernel
theorem d_jdk_21_method_1_89 : decode jdk_21_method_1_code 89 = .ok (.getfield 24, 3) := by decide +kernel
theorem d_jdk_21_method_1_92 : decode jdk_21_method_1_code 92 = .ok (.aaload, 1) := by decide +kernel
theorem d_jdk_21_method_1_93 : decode jdk_21_method_1_code 93 = .ok (.ifnull 71, 3) := by decide +kernel
theorem d_jdk_21_method_1_96 : decode jdk_21_method_1_code 96 = .ok (.iload_n 3, 1) := by decide +kernel
theorem d_jdk_21_method_1_97 : decode jdk_21_method_1_code 97 = .ok (.iload_n 2, 1) := by decide +kernel
theorem d_jdk_21_method_1_98 : decode jdk_21_method_1_code 98 = .ok (.isub, 1) := by decide +kernel
theorem d_jdk_21_method_1_99 : decode jdk_21_method_1_code 99 = .ok (.istore 6, 2) := by decide +kernel
theorem d_jdk_21_method_1_101 : decode jdk_21_method_1_code 101 = .ok (.aload 5, 2) := by decide +kernel
theorem d_jdk_21_method_1_103 : decode jdk_21_method_1_code 103 = .ok (.aload_n 0, 1) := by decide +kernel
theorem d_jdk_21_method_1_104 : decode jdk_21_method_1_code 104 = .ok (.getfield 24, 3) := by decide +kernel
theorem d_jdk_21_method_1_107 : decode jdk_21_method_1_code 107 = .ok (.aload 5, 2) := by decide +kernel
theorem d_jdk_21_method_1_109 : decode jdk_21_method_1_code 109 = .ok (.aload_n 0, 1) := by decide +kernel
theorem d_jdk_21_method_1_110 : decode jdk_21_method_1_code 110 = .ok (.getfield 24, 3) := by decide +kernel
theorem d_jdk_21_method_1_113 : decode jdk_21_method_1_code 113 = .ok (.iload 6, 2) := by decide +kernel
theorem d_jdk_21_method_1_115 : decode jdk_21_method_1_code 115 = .ok (.iadd, 1) := by decide +kernel
theorem d_jdk_21_method_1_116 : decode jdk_21_method_1_code 116 = .ok (.iload_n 2, 1) := by decide +kernel
theorem d_jdk_21_method_1_117 : decode jdk_21_method_1_code 117 = .ok (.aload_n 0, 1) := by decide +kernel
theorem d_jdk_21_method_1_118 : decode jdk_21_method_1_code 118 = .ok (.getfield 24, 3) := by decide +kernel
theorem d_jdk_21_method_1_121 : decode jdk_21_method_1_code 121 = .ok (.isub, 1) := by decide +kernel
theorem d_jdk_21_method_1_122 : decode jdk_21_method_1_code 122 = .ok (.invokestatic 27, 3) := by decide +kernel
theorem d_jdk_21_method_1_125 : decode jdk_21_method_1_code 125 = .ok (.aload_n 0, 1) := by decide +kernel
theorem d_jdk_21_method_1_126 : decode jdk_21_method_1_code 126 = .ok (.getfield 24, 3) := by decide +kernel
theorem d_jdk_21_method_1_129 : decode jdk_21_method_1_code 129 = .ok (.istore 7, 2) := by decide +kernel
theorem d_jdk_21_method_1_131 : decode jdk_21_method_1_code 131 = .ok (.aload_n 0, 1) := by decide +kernel
theorem d_jdk_21_method_1_132 : decode jdk_21_method_1_code 132 = .ok (.dup, 1) := by decide +kernel
theorem d_jdk_21_method_1_133 : decode jdk_21_method_1_code 133 = .ok (.getfield 24, 3) := by decide +kernel
theorem d_jdk_21_method_1_136 : decode jdk_21_method_1_code 136 = .ok (.iload 6, 2) := by decide +kernel
theorem d_jdk_21_method_1_138 : decode jdk_21_method_1_code 138 = .ok (.iadd, 1) := by decide +kernel
theorem d_jdk_21_method_1_139 : decode jdk_21_method_1_code 139 = .ok (.dup_x1, 1) := by decide +kernel
theorem d_jdk_21_method_1_140 : decode jdk_21_method_1_code 140 = .ok (.putfield 24, 3) := by decide +kernel
theorem d_jdk_21_method_1_143 : decode jdk_21_method_1_code 143 = .ok (.istore 8, 2) := by decide +kernel
theorem d_jdk_21_method_1_145 : decode jdk_21_method_1_code 145 = .ok (.iload 7, 2) := by decide +kernel
theorem d_jdk_21_method_1_147 : decode jdk_21_method_1_code 147 = .ok (.iload 8, 2) := by decide +kernel
theorem d_jdk_21_method_1_149 : decode jdk_21_method_1_code 149 = .ok (.if_icmp .ge 15, 3) := by decide +kernel
theorem d_jdk_21_method_1_152 : decode jdk_21_method_1_code 152 = .ok (.aload 5, 2) := by decide +kernel
theorem d_jdk_21_method_1_154 : decode jdk_21_method_1_code 154 = .ok (.iload 7, 2) := by decide +kernel
theorem d_jdk_21_method_1_156 : decode jdk_21_method_1_code 156 = .ok (.aconst_null, 1) := by decide +kernel
theorem d_jdk_21_method_1_157 : decode jdk_21_method_1_code 157 = .ok (.aastore, 1) := by decide +kernel
theorem d_jdk_21_method_1_158 : decode jdk_21_method_1_code 158 = .ok (.iinc 7 1, 3) := by decide +kernel
theorem d_jdk_21_method_1_161 : decode jdk_21_method_1_code 161 = .ok (.goto (-16), 3) := by decide +kernel
theorem d_jdk_21_method_1_164 : decode jdk_21_method_1_code 164 = .ok (.return_, 1) := by decide +kernel
theorem d_jdk_21_method_20_0 : decode jdk_21_method_20_code 0 = .ok (.aload_n 0, 1) := by decide +kernel
theorem d_jdk_21_method_20_1 : decode jdk_21_method_20_code 1 = .ok (.getfield 3, 3) := by decide +kernel
theorem d_jdk_21_method_20_4 : decode jdk_21_method_20_code 4 = .ok (.dup, 1) := by decide +kernel
theorem d_jdk_21_method_20_5 : decode jdk_21_method_20_code 5 = .ok (.astore_n 1, 1) := by decide +kernel
theorem d_jdk_21_method_20_6 : decode jdk_21_method_20_code 6 = .ok (.aload_n 0, 1) := by decide +kernel
theorem d_jdk_21_method_20_7 : decode jdk_21_method_20_code 7 = .ok (.getfield 24, 3) := by decide +kernel
theorem d_jdk_21_method_20_10 : decode jdk_21_method_20_code 10 = .ok (.dup, 1) := by decide +kernel
theorem d_jdk_21_method_20_11 : decode jdk_21_method_20_code 11 = .ok (.istore_n 2, 1) := by decide +kernel
theorem d_jdk_21_method_20_12 : decode jdk_21_method_20_code 12 = .ok (.invokestatic 103, 3) := by decide +kernel
theorem d_jdk_21_method_20_15 : decode jdk_21_method_20_code 15 = .ok (.astore_n 3, 1) := by decide +kernel
theorem d_jdk_21_method_20_16 : decode jdk_21_method_20_code 16 = .ok (.aload_n 3, 1) := by decide +kernel
theorem d_jdk_21_method_20_17 : decode jdk_21_method_20_code 17 = .ok (.ifnull 17, 3) := by decide +kernel
theorem d_jdk_21_method_20_20 : decode jdk_21_method_20_code 20 = .ok (.aload_n 1, 1) := by decide +kernel
theorem d_jdk_21_method_20_21 : decode jdk_21_method_20_code 21 = .ok (.iload_n 2, 1) := by decide +kernel
theorem d_jdk_21_method_20_22 : decode jdk_21_method_20_code 22 = .ok (.aconst_null, 1) := by decide +kernel
theorem d_jdk_21_method_20_23 : decode jdk_21_method_20_code 23 = .ok (.aastore, 1) := by decide +kernel
theorem d_jdk_21_method_20_24 : decode jdk_21_method_20_code 24 = .ok (.aload_n 0, 1) := by decide +kernel
theorem d_jdk_21_method_20_25 : decode jdk_21_method_20_code 25 = .ok (.iload_n 2, 1) := by decide +kernel
theorem d_jdk_21_method_20_26 : decode jdk_21_method_20_code 26 = .ok (.aload_n 1, 1) := by decide +kernel
theorem d_jdk_21_method_20_27 : decode jdk_21_method_20_code 27 = .ok (.arraylength, 1) := by decide +kernel
theorem d_jdk_21_method_20_28 : decode jdk_21_method_20_code 28 = .ok (.invokestatic 74, 3) := by decide +kernel
theorem d_jdk_21_method_20_31 : decode jdk_21_method_20_code 31 = .ok (.putfield 24, 3) := by decide +kernel
theorem d_jdk_21_method_20_34 : decode jdk_21_method_20_code 34 = .ok (.aload_n 3, 1) := by decide +kernel
theorem d_jdk_21_method_20_35 : decode jdk_21_method_20_code 35 = .ok (.areturn, 1) := by decide +kernel
theorem d_jdk_21_method_24_0 : decode jdk_21_method_24_code 0 = .ok (.aload_n 0, 1) := by decide +kernel
theorem d_jdk_21_method_24_1 : decode jdk_21_method_24_code 1 = .ok (.getfield 3, 3) := by decide +kernel
theorem d_jdk_21_method_24_4 : decode jdk_21_method_24_code 4 = .ok (.aload_n 0, 1) := by decide +kernel
theorem d_jdk_21_method_24_5 : decode jdk_21_method_24_code 5 = .ok (.getfield 24, 3) := by decide +kernel
theorem d_jdk_21_method_24_8 : decode jdk_21_method_24_code 8 = .ok (.invokestatic 103, 3) := by decide +kernel
theorem d_jdk_21_method_24_11 : decode jdk_21_method_24_code 11 = .ok (.areturn, 1) := by decide +kernel
theorem d_jdk_21_method_28_0 : decode jdk_21_method_28_code 0 = .ok (.aload_n 0, 1) := by decide +kernel
theorem d_jdk_21_method_28_1 : decode jdk_21_method_28_code 1 = .ok (.aload_n 1, 1) := by decide +kernel
theorem d_jdk_21_method_28_2 : decode jdk_21_method_28_code 2 = .ok (.invokevirtual 90, 3) := by decide +kernel
theorem d_jdk_21_method_28_5 : decode jdk_21_method_28_code 5 = .ok (.iconst 1, 1) := by decide +kernel
theorem d_jdk_21_method_28_6 : decode jdk_21_method_28_code 6 = .ok (.ireturn, 1) := by decide +kernel
theorem d_jdk_21_method_30_0 : decode jdk_21_method_30_code 0 = .ok (.aload_n 0, 1) := by decide +kernel
theorem d_jdk_21_method_30_1 : decode jdk_21_method_30_code 1 = .ok (.invokevirtual 118, 3) := by decide +kernel
theorem d_jdk_21_method_30_4 : decode jdk_21_method_30_code 4 = .ok (.areturn, 1) := by decide +kernel
theorem d_jdk_21_method_33_0 : decode jdk_21_method_33_code 0 = .ok (.aload_n 0, 1) := by decide +kernel
theorem d_jdk_21_method_33_1 : decode jdk_21_method_33_code 1 = .ok (.invokevirtual 124, 3) := by decide +kernel
theorem d_jdk_21_method_33_4 : decode jdk_21_method_33_code 4 = .ok (.areturn, 1) := by decide +kernel
theorem d_jdk_21_method_38_0 : decode jdk_21_method_38_code 0 = .ok (.aload_n 0, 1) := by decide +kernel
theorem d_jdk_21_method_38_1 : decode jdk_21_method_38_code 1 = .ok (.getfield 24, 3) := by decide +kernel
theorem d_jdk_21_method_38_4 : decode jdk_21_method_38_code 4 = .ok (.aload_n 0, 1) := by decide +kernel
theorem d_jdk_21_method_38_5 : decode jdk_21_method_38_code 5 = .ok (.getfield 20, 3) := by decide +kernel
theorem d_jdk_21_method_38_8 : decode jdk_21_method_38_code 8 = .ok (.if_icmp .ne 7, 3) := by decide +kernel
theorem d_jdk_21_method_38_11 : decode jdk_21_method_38_code 11 = .ok (.iconst 1, 1) := by decide +kernel
theorem d_jdk_21_method_38_12 : decode jdk_21_method_38_code 12 = .ok (.goto 4, 3) := by decide +kernel
theorem d_jdk_21_method_38_15 : decode jdk_21_method_38_code 15 = .ok (.iconst 0, 1) := by decide +kernel
theorem d_jdk_21_method_38_16 : decode jdk_21_method_38_code 16 = .ok (.ireturn, 1) := by decide +kernel
theorem d_jdk_21_method_4_0 : decode jdk_21_method_4_code 0 = .ok (.aload_n 0, 1) := by decide +kernel
theorem d_jdk_21_method_4_1 : decode jdk_21_method_4_code 1 = .ok (.invokespecial 42, 3) := by decide +kernel
theorem d_jdk_21_method_4_4 : decode jdk_21_method_4_code 4 = .ok (.aload_n 0, 1) := by decide +kernel
theorem d_jdk_21_method_4_5 : decode jdk_21_method_4_code 5 = .ok (.iload_n 1, 1) := by decide +kernel
theorem d_jdk_21_method_4_6 : decode jdk_21_method_4_code 6 = .ok (.iconst 1, 1) := by decide +kernel
theorem d_jdk_21_method_4_7 : decode jdk_21_method_4_code 7 = .ok (.if_icmp .ge 7, 3) := by decide +kernel
theorem d_jdk_21_method_4_14 : decode jdk_21_method_4_code 14 = .ok (.iload_n 1, 1) := by decide +kernel
theorem d_jdk_21_method_4_15 : decode jdk_21_method_4_code 15 = .ok (.ldc 41, 2) := by decide +kernel
theorem d_jdk_21_method_4_17 : decode jdk_21_method_4_code 17 = .ok (.if_icmp .ne 8, 3) := by decide +kernel
theorem d_jdk_21_method_4_25 : decode jdk_21_method_4_code 25 = .ok (.iload_n 1, 1) := by decide +kernel
theorem d_jdk_21_method_4_26 : decode jdk_21_method_4_code 26 = .ok (.iconst 1, 1) := by decide +kernel
theorem d_jdk_21_method_4_27 : decode jdk_21_method_4_code 27 = .ok (.iadd, 1) := by decide +kernel
theorem d_jdk_21_method_4_28 : decode jdk_21_method_4_code 28 = .ok (.anewarray 47, 3) := by decide +kernel
theorem d_jdk_21_method_4_31 : decode jdk_21_method_4_code 31 = .ok (.putfield 3, 3) := by decide +kernel
theorem d_jdk_21_method_4_34 : decode jdk_21_method_4_code 34 = .ok (.return_, 1) := by decide +kernel
theorem d_jdk_21_method_6_0 : decode jdk_21_method_6_code 0 = .ok (.iinc 0 1, 3) := by decide +kernel
theorem d_jdk_21_method_6_3 : decode jdk_21_method_6_code 3 = .ok (.iload_n 0, 1) := by decide +kernel
theorem d_jdk_21_method_6_4 : decode jdk_21_method_6_code 4 = .ok (.iload_n 1, 1) := by decide +kernel
theorem d_jdk_21_method_6_5 : decode jdk_21_method_6_code 5 = .ok (.if_icmp .lt 5, 3) := by decide +kernel
theorem d_jdk_21_method_6_8 : decode jdk_21_method_6_code 8 = .ok (.iconst 0, 1) := by decide +kernel
theorem d_jdk_21_method_6_9 : decode jdk_21_method_6_code 9 = .ok (.istore_n 0, 1) := by decide +kernel
theorem d_jdk_21_method_6_10 : decode jdk_21_method_6_code 10 = .ok (.iload_n 0, 1) := by decide +kernel
theorem d_jdk_21_method_6_11 : decode jdk_21_method_6_code 11 = .ok (.ireturn, 1) := by decide +kernel
theorem d_jdk_22_method_1_0 : decode jdk_22_method_1_code 0 = .ok (.aload_n 0, 1) := by decide +kernel
theorem d_jdk_22_method_1_1 : decode jdk_22_method_1_code 1 = .ok (.invokespecial 1, 3) := by decide +kernel
theorem d_jdk_22_method_1_4 : decode jdk_22_method_1_code 4 = .ok (.return_, 1) := by decide +kernel
theorem d_jdk_29_method_66_0 : decode jdk_29_method_66_code 0 = .ok (.lload_n 0, 1) := by decide +kernel
theorem d_jdk_29_method_66_1 : decode jdk_29_method_66_code 1 = .ok (.lload_n 2, 1) := by decide +kernel
theorem d_jdk_29_method_66_2 : decode jdk_29_method_66_code 2 = .ok (.lcmp, 1) := by decide +kernel
theorem d_jdk_29_method_66_3 : decode jdk_29_method_66_code 3 = .ok (.ifCond .lt 7, 3) := by decide +kernel
theorem d_jdk_29_method_66_6 : decode jdk_29_method_66_code 6 = .ok (.lload_n 0, 1) := by decide +kernel
theorem d_jdk_29_method_66_7 : decode jdk_29_method_66_code 7 = .ok (.goto 4, 3) := by decide +kernel
theorem d_jdk_29_method_66_10 : decode jdk_29_method_66_code 10 = .ok (.lload_n 2, 1) := by decide +kernel
theorem d_jdk_29_method_66_11 : decode jdk_29_method_66_code 11 = .ok (.lreturn, 1) := by decide +kernel
theorem d_jdk_29_method_69_0 : decode jdk_29_method_69_code 0 = .ok (.iload_n 0, 1) := by decide +kernel
theorem d_jdk_29_method_69_1 : decode jdk_29_method_69_code 1 = .ok (.iload_n 1, 1) := by decide +kernel
theorem d_jdk_29_method_69_2 : decode jdk_29_method_69_code 2 = .ok (.if_icmp .gt 7, 3) := by decide +kernel
theorem d_jdk_29_method_69_5 : decode jdk_29_method_69_code 5 = .ok (.iload_n 0, 1) := by decide +kernel
theorem d_jdk_29_method_69_6 : decode jdk_29_method_69_code 6 = .ok (.goto 4, 3) := by decide +kernel
theorem d_jdk_29_method_69_10 : decode jdk_29_method_69_code 10 = .ok (.ireturn, 1) := by decide +kernel
theorem d_jdk_29_method_70_0 : decode jdk_29_method_70_code 0 = .ok (.lload_n 0, 1) := by decide +kernel
theorem d_jdk_29_method_70_1 : decode jdk_29_method_70_code 1 = .ok (.lload_n 2, 1) := by decide +kernel
theorem d_jdk_29_method_70_2 : decode jdk_29_method_70_code 2 = .ok (.lcmp, 1) := by decide +kernel
theorem d_jdk_29_method_70_3 : decode jdk_29_method_70_code 3 = .ok (.ifCond .gt 7, 3) := by decide +kernel
theorem d_jdk_29_method_70_6 : decode jdk_29_method_70_code 6 = .ok (.lload_n 0, 1) := by decide +kernel
theorem d_jdk_29_method_70_7 : decode jdk_29_method_70_code 7 = .ok (.goto 4, 3) := by decide +kernel
theorem d_jdk_29_method_70_10 : decode jdk_29_method_70_code 10 = .ok (.lload_n 2, 1) := by decide +kernel
theorem d_jdk_29_method_70_11 : decode jdk_29_method_70_code 11 = .ok (.lreturn, 1) := by decide +kernel
theorem d_jdk_30_method_1_0 : decode jdk_30_method_1_code 0 = .ok (.aload_n 0, 1) := by decide +kernel
theorem d_jdk_30_method_1_1 : decode jdk_30_method_1_code 1 = .ok (.invokespecial 1, 3) := by decide +kernel
theorem d_jdk_30_method_1_4 : decode jdk_30_method_1_code 4 = .ok (.return_, 1) := by decide +kernel
theorem d_jdk_65_method_119_0 : decode jdk_65_method_119_code 0 = .ok (.aload_n 0, 1) := by decide +kernel
theorem d_jdk_65_method_119_1 : decode jdk_65_method_119_code 1 = .ok (.iload_n 1, 1) := by decide +kernel
theorem d_jdk_65_method_119_2 : decode jdk_65_method_119_code 2 = .ok (.aload_n 0, 1) := by decide +kernel
theorem d_jdk_65_method_119_3 : decode jdk_65_method_119_code 3 = .ok (.invokevirtual 86, 3) := by decide +kernel
theorem d_jdk_65_method_119_6 : decode jdk_65_method_119_code 6 = .ok (.invokestatic 300, 3) := by decide +kernel
theorem d_jdk_65_method_119_9 : decode jdk_65_method_119_code 9 = .ok (.areturn, 1) := by decide +kernel
theorem d_jdk_65_method_120_0 : decode jdk_65_method_120_code 0 = .ok (.aload_n 2, 1) := by decide +kernel
theorem d_jdk_65_method_120_1 : decode jdk_65_method_120_code 1 = .ok (.ldc 110, 2) := by decide +kernel
theorem d_jdk_65_method_120_3 : decode jdk_65_method_120_code 3 = .ok (.if_acmp .ne 10, 3) := by decide +kernel
theorem d_jdk_65_method_120_6 : decode jdk_65_method_120_code 6 = .ok (.iload_n 1, 1) := by decide +kernel
theorem d_jdk_65_method_120_7 : decode jdk_65_method_120_code 7 = .ok (.anewarray 2, 3) := by decide +kernel
theorem d_jdk_65_method_120_10 : decode jdk_65_method_120_code 10 = .ok (.goto 14, 3) := by decide +kernel
theorem d_jdk_65_method_120_24 : decode jdk_65_method_120_code 24 = .ok (.astore_n 3, 1) := by decide +kernel
theorem d_jdk_65_method_120_25 : decode jdk_65_method_120_code 25 = .ok (.aload_n 0, 1) := by decide +kernel
theorem d_jdk_65_method_120_26 : decode jdk_65_method_120_code 26 = .ok (.iconst 0, 1) := by decide +kernel
theorem d_jdk_65_method_120_27 : decode jdk_65_method_120_code 27 = .ok (.aload_n 3, 1) := by decide +kernel
theorem d_jdk_65_method_120_28 : decode jdk_65_method_120_code 28 = .ok (.iconst 0, 1) := by decide +kernel
theorem d_jdk_65_method_120_29 : decode jdk_65_method_120_code 29 = .ok (.aload_n 0, 1) := by decide +kernel
theorem d_jdk_65_method_120_30 : decode jdk_65_method_120_code 30 = .ok (.arraylength, 1) := by decide +kernel
theorem d_jdk_65_method_120_31 : decode jdk_65_method_120_code 31 = .ok (.iload_n 1, 1) := by decide +kernel
theorem d_jdk_65_method_120_32 : decode jdk_65_method_120_code 32 = .ok (.invokestatic 304, 3) := by decide +kernel
theorem d_jdk_65_method_120_35 : decode jdk_65_method_120_code 35 = .ok (.invokestatic 150, 3) := by decide +kernel
theorem d_jdk_65_method_120_38 : decode jdk_65_method_120_code 38 = .ok (.aload_n 3, 1) := by decide +kernel
theorem d_jdk_65_method_120_39 : decode jdk_65_method_120_code 39 = .ok (.areturn, 1) := by decide +kernel
theorem d_prog_89_method_1_0 : decode prog_89_method_1_code 0 = .ok (.aload_n 0, 1) := by decide +kernel
theorem d_prog_89_method_1_1 : decode prog_89_method_1_code 1 = .ok (.invokespecial 1, 3) := by decide +kernel
theorem d_prog_89_method_1_4 : decode prog_89_method_1_code 4 = .ok (.aload_n 0, 1) := by decide +kernel
theorem d_prog_89_method_1_5 : decode prog_89_method_1_code 5 = .ok (.new 7, 3) := by decide +kernel
theorem d_prog_89_method_1_8 : decode prog_89_method_1_code 8 = .ok (.dup, 1) := by decide +kernel
theorem d_prog_89_method_1_9 : decode prog_89_method_1_code 9 = .ok (.iconst 1, 1) := by decide +kernel
theorem d_prog_89_method_1_10 : decode prog_89_method_1_code 10 = .ok (.invokespecial 9, 3) := by decide +kernel
theorem d_prog_89_method_1_13 : decode prog_89_method_1_code 13 = .ok (.putfield 12, 3) := by decide +kernel
theorem d_prog_89_method_1_16 : decode prog_89_method_1_code 16 = .ok (.aload_n 0, 1) := by decide +kernel
theorem d_prog_89_method_1_17 : decode prog_89_method_1_code 17 = .ok (.new 7, 3) := by decide +kernel
theorem d_prog_89_method_1_20 : decode prog_89_method_1_code 20 = .ok (.dup, 1) := by decide +kernel
theorem d_prog_89_method_1_21 : decode prog_89_method_1_code 21 = .ok (.iconst 1, 1) := by decide +kernel
theorem d_prog_89_method_1_22 : decode prog_89_method_1_code 22 = .ok (.invokespecial 9, 3) := by decide +kernel
theorem d_prog_89_method_1_25 : decode prog_89_method_1_code 25 = .ok (.putfield 18, 3) := by decide +kernel
theorem d_prog_89_method_1_28 : decode prog_89_method_1_code 28 = .ok (.aload_n 0, 1) := by decide +kernel
theorem d_prog_89_method_1_29 : decode prog_89_method_1_code 29 = .ok (.ldc2_w 23, 3) := by decide +kernel
theorem d_prog_89_method_1_32 : decode prog_89_method_1_code 32 = .ok (.putfield 25, 3) := by decide +kernel
theorem d_prog_89_method_1_35 : decode prog_89_method_1_code 35 = .ok (.aload_n 0, 1) := by decide +kernel
theorem d_prog_89_method_1_36 : decode prog_89_method_1_code 36 = .ok (.lload_n 1, 1) := by decide +kernel
theorem d_prog_89_method_1_37 : decode prog_89_method_1_code 37 = .ok (.putfield 29, 3) := by decide +kernel
theorem d_prog_89_method_1_40 : decode prog_89_method_1_code 40 = .ok (.aload_n 0, 1) := by decide +kernel
theorem d_prog_89_method_1_41 : decode prog_89_method_1_code 41 = .ok (.lload_n 1, 1) := by decide +kernel
theorem d_prog_89_method_1_42 : decode prog_89_method_1_code 42 = .ok (.putfield 32, 3) := by decide +kernel
theorem d_prog_89_method_1_45 : decode prog_89_method_1_code 45 = .ok (.aload_n 0, 1) := by decide +kernel
theorem d_prog_89_method_1_46 : decode prog_89_method_1_code 46 = .ok (.getfield 18, 3) := by decide +kernel
theorem d_prog_89_method_1_49 : decode prog_89_method_1_code 49 = .ok (.new 35, 3) := by decide +kernel
theorem d_prog_89_method_1_52 : decode prog_89_method_1_code 52 = .ok (.dup, 1) := by decide +kernel
theorem d_prog_89_method_1_53 : decode prog_89_method_1_code 53 = .ok (.lload_n 1, 1) := by decide +kernel
theorem d_prog_89_method_1_54 : decode prog_89_method_1_code 54 = .ok (.lload_n 3, 1) := by decide +kernel
theorem d_prog_89_method_1_55 : decode prog_89_method_1_code 55 = .ok (.invokespecial 37, 3) := by decide +kernel
theorem d_prog_89_method_1_58 : decode prog_89_method_1_code 58 = .ok (.invokeinterface 40 2, 5) := by decide +kernel
theorem d_prog_89_method_1_63 : decode prog_89_method_1_code 63 = .ok (.pop, 1) := by decide +kernel
theorem d_prog_89_method_1_64 : decode prog_89_method_1_code 64 = .ok (.return_, 1) := by decide +kernel
theorem d_prog_89_method_2_0 : decode prog_89_method_2_code 0 = .ok (.aload_n 0, 1) := by decide +kernel
theorem d_prog_89_method_2_1 : decode prog_89_method_2_code 1 = .ok (.getfield 29, 3) := by decide +kernel
theorem d_prog_89_method_2_4 : decode prog_89_method_2_code 4 = .ok (.aload_n 0, 1) := by decide +kernel
theorem d_prog_89_method_2_5 : decode prog_89_method_2_code 5 = .ok (.getfield 46, 3) := by decide +kernel
theorem d_prog_89_method_2_8 : decode prog_89_method_2_code 8 = .ok (.lcmp, 1) := by decide +kernel
theorem d_prog_89_method_2_9 : decode prog_89_method_2_code 9 = .ok (.ifCond .ne 7, 3) := by decide +kernel
theorem d_prog_89_method_2_12 : decode prog_89_method_2_code 12 = .ok (.iconst 1, 1) := by decide +kernel
theorem d_prog_89_method_2_13 : decode prog_89_method_2_code 13 = .ok (.goto 4, 3) := by decide +kernel
theorem d_prog_89_method_2_16 : decode prog_89_method_2_code 16 = .ok (.iconst 0, 1) := by decide +kernel
theorem d_prog_89_method_2_17 : decode prog_89_method_2_code 17 = .ok (.ireturn, 1) := by decide +kernel
theorem d_prog_89_method_5_0 : decode prog_89_method_5_code 0 = .ok (.ldc2_w 53, 3) := by decide +kernel
theorem d_prog_89_method_5_3 : decode prog_89_method_5_code 3 = .ok (.ldc2_w 55, 3) := by decide +kernel
theorem d_prog_89_method_5_6 : decode prog_89_method_5_code 6 = .ok (.aload_n 0, 1) := by decide +kernel
theorem d_prog_89_method_5_7 : decode prog_89_method_5_code 7 = .ok (.getfield 57, 3) := by decide +kernel
theorem d_prog_89_method_5_10 : decode prog_89_method_5_code 10 = .ok (.lmul, 1) := by decide +kernel
theorem d_prog_89_method_5_11 : decode prog_89_method_5_code 11 = .ok (.invokestatic 60, 3) := by decide +kernel
theorem d_prog_89_method_5_14 : decode prog_89_method_5_code 14 = .ok (.lreturn, 1) := by decide +kernel
theorem d_prog_89_method_6_0 : decode prog_89_method_6_code 0 = .ok (.aload_n 0, 1) := by decide +kernel
theorem d_prog_89_method_6_1 : decode prog_89_method_6_code 1 = .ok (.getfield 29, 3) := by decide +kernel
theorem d_prog_89_method_6_4 : decode prog_89_method_6_code 4 = .ok (.lstore 5, 2) := by decide +kernel
theorem d_prog_89_method_6_6 : decode prog_89_method_6_code 6 = .ok (.aload_n 0, 1) := by decide +kernel
theorem d_prog_89_method_6_7 : decode prog_89_method_6_code 7 = .ok (.dup, 1) := by decide +kernel
theorem d_prog_89_method_6_8 : decode prog_89_method_6_code 8 = .ok (.getfield 29, 3) := by decide +kernel
theorem d_prog_89_method_6_11 : decode prog_89_method_6_code 11 = .ok (.lload_n 1, 1) := by decide +kernel
theorem d_prog_89_method_6_12 : decode prog_89_method_6_code 12 = .ok (.ladd, 1) := by decide +kernel
theorem d_prog_89_method_6_13 : decode prog_89_method_6_code 13 = .ok (.putfield 29, 3) := by decide +kernel
theorem d_prog_89_method_6_16 : decode prog_89_method_6_code 16 = .ok (.aload_n 0, 1) := by decide +kernel
theorem d_prog_89_method_6_17 : decode prog_89_method_6_code 17 = .ok (.getfield 12, 3) := by decide +kernel
theorem d_prog_89_method_6_20 : decode prog_89_method_6_code 20 = .ok (.new 66, 3) := by decide +kernel
theorem d_prog_89_method_6_23 : decode prog_89_method_6_code 23 = .ok (.dup, 1) := by decide +kernel
theorem d_prog_89_method_6_24 : decode prog_89_method_6_code 24 = .ok (.aload_n 0, 1) := by decide +kernel
theorem d_prog_89_method_6_25 : decode prog_89_method_6_code 25 = .ok (.getfield 29, 3) := by decide +kernel
theorem d_prog_89_method_6_28 : decode prog_89_method_6_code 28 = .ok (.lload_n 3, 1) := by decide +kernel
theorem d_prog_89_method_6_29 : decode prog_89_method_6_code 29 = .ok (.aload_n 0, 1) := by decide +kernel
theorem d_prog_89_method_6_30 : decode prog_89_method_6_code 30 = .ok (.getfield 46, 3) := by decide +kernel
theorem d_prog_89_method_6_33 : decode prog_89_method_6_code 33 = .ok (.aload_n 0, 1) := by decide +kernel
theorem d_prog_89_method_6_34 : decode prog_89_method_6_code 34 = .ok (.invokevirtual 49, 3) := by decide +kernel
theorem d_prog_89_method_6_37 : decode prog_89_method_6_code 37 = .ok (.invokespecial 68, 3) := by decide +kernel
theorem d_prog_89_method_6_40 : decode prog_89_method_6_code 40 = .ok (.invokeinterface 40 2, 5) := by decide +kernel
theorem d_prog_89_method_6_45 : decode prog_89_method_6_code 45 = .ok (.pop, 1) := by decide +kernel
theorem d_prog_89_method_6_46 : decode prog_89_method_6_code 46 = .ok (.lload 5, 2) := by decide +kernel
theorem d_prog_89_method_6_48 : decode prog_89_method_6_code 48 = .ok (.lreturn, 1) := by decide +kernel
theorem d_prog_89_method_8_0 : decode prog_89_method_8_code 0 = .ok (.lload_n 1, 1) := by decide +kernel
theorem d_prog_89_method_8_1 : decode prog_89_method_8_code 1 = .ok (.aload_n 0, 1) := by decide +kernel
theorem d_prog_89_method_8_2 : decode prog_89_method_8_code 2 = .ok (.getfield 46, 3) := by decide +kernel
theorem d_prog_89_method_8_5 : decode prog_89_method_8_code 5 = .ok (.lcmp, 1) := by decide +kernel
theorem d_prog_89_method_8_6 : decode prog_89_method_8_code 6 = .ok (.ifCond .lt 12, 3) := by decide +kernel
theorem d_prog_89_method_8_9 : decode prog_89_method_8_code 9 = .ok (.lload_n 1, 1) := by decide +kernel
theorem d_prog_89_method_8_10 : decode prog_89_method_8_code 10 = .ok (.aload_n 0, 1) := by decide +kernel
theorem d_prog_89_method_8_11 : decode prog_89_method_8_code 11 = .ok (.getfield 29, 3) := by decide +kernel
theorem d_prog_89_method_8_14 : decode prog_89_method_8_code 14 = .ok (.lcmp, 1) := by decide +kernel
theorem d_prog_89_method_8_15 : decode prog_89_method_8_code 15 = .ok (.ifCond .le 25, 3) := by decide +kernel
theorem d_prog_89_method_8_40 : decode prog_89_method_8_code 40 = .ok (.aload_n 0, 1) := by decide +kernel
theorem d_prog_89_method_8_41 : decode prog_89_method_8_code 41 = .ok (.lload_n 1, 1) := by decide +kernel
theorem d_prog_89_method_8_42 : decode prog_89_method_8_code 42 = .ok (.putfield 46, 3) := by decide +kernel
theorem d_prog_89_method_8_45 : decode prog_89_method_8_code 45 = .ok (.aload_n 0, 1) := by decide +kernel
theorem d_prog_89_method_8_46 : decode prog_89_method_8_code 46 = .ok (.getfield 18, 3) := by decide +kernel
theorem d_prog_89_method_8_49 : decode prog_89_method_8_code 49 = .ok (.invokeinterface 80 1, 5) := by decide +kernel
theorem d_prog_89_method_8_54 : decode prog_89_method_8_code 54 = .ok (.ifCond .ne 54, 3) := by decide +kernel
theorem d_prog_89_method_8_57 : decode prog_89_method_8_code 57 = .ok (.aload_n 0, 1) := by decide +kernel
theorem d_prog_89_method_8_58 : decode prog_89_method_8_code 58 = .ok (.getfield 18, 3) := by decide +kernel
theorem d_prog_89_method_8_61 : decode prog_89_method_8_code 61 = .ok (.invokeinterface 84 1, 5) := by decide +kernel
theorem d_prog_89_method_8_66 : decode prog_89_method_8_code 66 = .ok (.checkcast 35, 3) := by decide +kernel
theorem d_prog_89_method_8_69 : decode prog_89_method_8_code 69 = .ok (.invokevirtual 88, 3) := by decide +kernel
theorem d_prog_89_method_8_72 : decode prog_89_method_8_code 72 = .ok (.lload_n 1, 1) := by decide +kernel
theorem d_prog_89_method_8_73 : decode prog_89_method_8_code 73 = .ok (.lcmp, 1) := by decide +kernel
theorem d_prog_89_method_8_74 : decode prog_89_method_8_code 74 = .ok (.ifCond .gt 34, 3) := by decide +kernel
theorem d_prog_89_method_8_77 : decode prog_89_method_8_code 77 = .ok (.aload_n 0, 1) := by decide +kernel
theorem d_prog_89_method_8_78 : decode prog_89_method_8_code 78 = .ok (.aload_n 0, 1) := by decide +kernel
theorem d_prog_89_method_8_79 : decode prog_89_method_8_code 79 = .ok (.getfield 25, 3) := by decide +kernel
theorem d_prog_89_method_8_82 : decode prog_89_method_8_code 82 = .ok (.lload_n 3, 1) := by decide +kernel
theorem d_prog_89_method_8_83 : decode prog_89_method_8_code 83 = .ok (.aload_n 0, 1) := by decide +kernel
theorem d_prog_89_method_8_84 : decode prog_89_method_8_code 84 = .ok (.getfield 18, 3) := by decide +kernel
theorem d_prog_89_method_8_87 : decode prog_89_method_8_code 87 = .ok (.invokeinterface 91 1, 5) := by decide +kernel
theorem d_prog_89_method_8_92 : decode prog_89_method_8_code 92 = .ok (.checkcast 35, 3) := by decide +kernel
theorem d_prog_89_method_8_95 : decode prog_89_method_8_code 95 = .ok (.invokevirtual 94, 3) := by decide +kernel
theorem d_prog_89_method_8_98 : decode prog_89_method_8_code 98 = .ok (.lsub, 1) := by decide +kernel
theorem d_prog_89_method_8_99 : decode prog_89_method_8_code 99 = .ok (.invokestatic 97, 3) := by decide +kernel
theorem d_prog_89_method_8_102 : decode prog_89_method_8_code 102 = .ok (.putfield 25, 3) := by decide +kernel
theorem d_prog_89_method_8_105 : decode prog_89_method_8_code 105 = .ok (.goto (-60), 3) := by decide +kernel
theorem d_prog_89_method_8_108 : decode prog_89_method_8_code 108 = .ok (.iconst 0, 1) := by decide +kernel
theorem d_prog_89_method_8_109 : decode prog_89_method_8_code 109 = .ok (.istore 5, 2) := by decide +kernel
theorem d_prog_89_method_8_111 : decode prog_89_method_8_code 111 = .ok (.aload_n 0, 1) := by decide +kernel
theorem d_prog_89_method_8_112 : decode prog_89_method_8_code 112 = .ok (.getfield 12, 3) := by decide +kernel
theorem d_prog_89_method_8_115 : decode prog_89_method_8_code 115 = .ok (.invokeinterface 80 1, 5) := by decide +kernel
theorem d_prog_89_method_8_120 : decode prog_89_method_8_code 120 = .ok (.ifCond .ne 46, 3) := by decide +kernel
theorem d_prog_89_method_8_123 : decode prog_89_method_8_code 123 = .ok (.aload_n 0, 1) := by decide +kernel
theorem d_prog_89_method_8_124 : decode prog_89_method_8_code 124 = .ok (.getfield 12, 3) := by decide +kernel
theorem d_prog_89_method_8_127 : decode prog_89_method_8_code 127 = .ok (.invokeinterface 84 1, 5) := by decide +kernel
theorem d_prog_89_method_8_132 : decode prog_89_method_8_code 132 = .ok (.checkcast 66, 3) := by decide +kernel
theorem d_prog_89_method_8_135 : decode prog_89_method_8_code 135 = .ok (.invokevirtual 100, 3) := by decide +kernel
theorem d_prog_89_method_8_138 : decode prog_89_method_8_code 138 = .ok (.lload_n 1, 1) := by decide +kernel
theorem d_prog_89_method_8_139 : decode prog_89_method_8_code 139 = .ok (.lcmp, 1) := by decide +kernel
theorem d_prog_89_method_8_140 : decode prog_89_method_8_code 140 = .ok (.ifCond .gt 26, 3) := by decide +kernel
theorem d_prog_89_method_8_143 : decode prog_89_method_8_code 143 = .ok (.aload_n 0, 1) := by decide +kernel
theorem d_prog_89_method_8_144 : decode prog_89_method_8_code 144 = .ok (.aload_n 0, 1) := by decide +kernel
theorem d_prog_89_method_8_145 : decode prog_89_method_8_code 145 = .ok (.getfield 12, 3) := by decide +kernel
theorem d_prog_89_method_8_148 : decode prog_89_method_8_code 148 = .ok (.invokeinterface 91 1, 5) := by decide +kernel
theorem d_prog_89_method_8_153 : decode prog_89_method_8_code 153 = .ok (.checkcast 66, 3) := by decide +kernel
theorem d_prog_89_method_8_156 : decode prog_89_method_8_code 156 = .ok (.lload_n 3, 1) := by decide +kernel
theorem d_prog_89_method_8_157 : decode prog_89_method_8_code 157 = .ok (.invokevirtual 101, 3) := by decide +kernel
theorem d_prog_89_method_8_160 : decode prog_89_method_8_code 160 = .ok (.iinc 5 1, 3) := by decide +kernel
theorem d_prog_89_method_8_163 : decode prog_89_method_8_code 163 = .ok (.goto (-52), 3) := by decide +kernel
theorem d_prog_89_method_8_166 : decode prog_89_method_8_code 166 = .ok (.iload 5, 2) := by decide +kernel
theorem d_prog_89_method_8_168 : decode prog_89_method_8_code 168 = .ok (.ireturn, 1) := by decide +kernel
theorem d_prog_89_method_9_0 : decode prog_89_method_9_code 0 = .ok (.lload_n 2, 1) := by decide +kernel
theorem d_prog_89_method_9_1 : decode prog_89_method_9_code 1 = .ok (.aload_n 1, 1) := by decide +kernel
theorem d_prog_89_method_9_2 : decode prog_89_method_9_code 2 = .ok (.invokevirtual 105, 3) := by decide +kernel
theorem d_prog_89_method_9_5 : decode prog_89_method_9_code 5 = .ok (.lsub, 1) := by decide +kernel
theorem d_prog_89_method_9_6 : decode prog_89_method_9_code 6 = .ok (.lstore 4, 2) := by decide +kernel
theorem d_prog_89_method_9_8 : decode prog_89_method_9_code 8 = .ok (.aload_n 1, 1) := by decide +kernel
theorem d_prog_89_method_9_9 : decode prog_89_method_9_code 9 = .ok (.invokevirtual 100, 3) := by decide +kernel
theorem d_prog_89_method_9_12 : decode prog_89_method_9_code 12 = .ok (.aload_n 1, 1) := by decide +kernel
theorem d_prog_89_method_9_13 : decode prog_89_method_9_code 13 = .ok (.invokevirtual 108, 3) := by decide +kernel
theorem d_prog_89_method_9_16 : decode prog_89_method_9_code 16 = .ok (.lsub, 1) := by decide +kernel
theorem d_prog_89_method_9_17 : decode prog_89_method_9_code 17 = .ok (.lstore 6, 2) := by decide +kernel
theorem d_prog_89_method_9_19 : decode prog_89_method_9_code 19 = .ok (.lload 4, 2) := by decide +kernel
theorem d_prog_89_method_9_21 : decode prog_89_method_9_code 21 = .ok (.aload_n 0, 1) := by decide +kernel
theorem d_prog_89_method_9_22 : decode prog_89_method_9_code 22 = .ok (.getfield 25, 3) := by decide +kernel
theorem d_prog_89_method_9_25 : decode prog_89_method_9_code 25 = .ok (.lcmp, 1) := by decide +kernel
theorem d_prog_89_method_9_26 : decode prog_89_method_9_code 26 = .ok (.ifCond .gt 8, 3) := by decide +kernel
theorem d_prog_89_method_9_29 : decode prog_89_method_9_code 29 = .ok (.lload 6, 2) := by decide +kernel
theorem d_prog_89_method_9_31 : decode prog_89_method_9_code 31 = .ok (.goto 17, 3) := by decide +kernel
theorem d_prog_89_method_9_48 : decode prog_89_method_9_code 48 = .ok (.lstore 8, 2) := by decide +kernel
theorem d_prog_89_method_9_50 : decode prog_89_method_9_code 50 = .ok (.lload 8, 2) := by decide +kernel
theorem d_prog_89_method_9_52 : decode prog_89_method_9_code 52 = .ok (.aload_n 1, 1) := by decide +kernel
theorem d_prog_89_method_9_53 : decode prog_89_method_9_code 53 = .ok (.invokevirtual 111, 3) := by decide +kernel
theorem d_prog_89_method_9_56 : decode prog_89_method_9_code 56 = .ok (.invokestatic 97, 3) := by decide +kernel
theorem d_prog_89_method_9_59 : decode prog_89_method_9_code 59 = .ok (.lstore 10, 2) := by decide +kernel
theorem d_prog_89_method_9_61 : decode prog_89_method_9_code 61 = .ok (.lload 10, 2) := by decide +kernel
theorem d_prog_89_method_9_63 : decode prog_89_method_9_code 63 = .ok (.aload_n 0, 1) := by decide +kernel
theorem d_prog_89_method_9_64 : decode prog_89_method_9_code 64 = .ok (.getfield 57, 3) := by decide +kernel
theorem d_prog_89_method_9_67 : decode prog_89_method_9_code 67 = .ok (.lcmp, 1) := by decide +kernel
theorem d_prog_89_method_9_68 : decode prog_89_method_9_code 68 = .ok (.ifCond .ge 21, 3) := by decide +kernel
theorem d_prog_89_method_9_71 : decode prog_89_method_9_code 71 = .ok (.lload_n 2, 1) := by decide +kernel
theorem d_prog_89_method_9_72 : decode prog_89_method_9_code 72 = .ok (.aload_n 0, 1) := by decide +kernel
theorem d_prog_89_method_9_73 : decode prog_89_method_9_code 73 = .ok (.getfield 114, 3) := by decide +kernel
theorem d_prog_89_method_9_76 : decode prog_89_method_9_code 76 = .ok (.lsub, 1) := by decide +kernel
theorem d_prog_89_method_9_77 : decode prog_89_method_9_code 77 = .ok (.ldc2_w 117, 3) := by decide +kernel
theorem d_prog_89_method_9_80 : decode prog_89_method_9_code 80 = .ok (.aload_n 0, 1) := by decide +kernel
theorem d_prog_89_method_9_81 : decode prog_89_method_9_code 81 = .ok (.getfield 25, 3) := by decide +kernel
theorem d_prog_89_method_9_84 : decode prog_89_method_9_code 84 = .ok (.lmul, 1) := by decide +kernel
theorem d_prog_89_method_9_85 : decode prog_89_method_9_code 85 = .ok (.lcmp, 1) := by decide +kernel
theorem d_prog_89_method_9_86 : decode prog_89_method_9_code 86 = .ok (.ifCond .le 14, 3) := by decide +kernel
theorem d_prog_89_method_9_89 : decode prog_89_method_9_code 89 = .ok (.aload_n 0, 1) := by decide +kernel
theorem d_prog_89_method_9_90 : decode prog_89_method_9_code 90 = .ok (.lload 10, 2) := by decide +kernel
theorem d_prog_89_method_9_92 : decode prog_89_method_9_code 92 = .ok (.putfield 57, 3) := by decide +kernel
theorem d_prog_89_method_9_95 : decode prog_89_method_9_code 95 = .ok (.aload_n 0, 1) := by decide +kernel
theorem d_prog_89_method_9_96 : decode prog_89_method_9_code 96 = .ok (.lload_n 2, 1) := by decide +kernel
theorem d_prog_89_method_9_97 : decode prog_89_method_9_code 97 = .ok (.putfield 114, 3) := by decide +kernel
theorem d_prog_89_method_9_100 : decode prog_89_method_9_code 100 = .ok (.return_, 1) := by decide +kernel
theorem d_prog_90_method_1_0 : decode prog_90_method_1_code 0 = .ok (.aload_n 0, 1) := by decide +kernel
theorem d_prog_90_method_1_1 : decode prog_90_method_1_code 1 = .ok (.invokespecial 1, 3) := by decide +kernel
theorem d_prog_90_method_1_4 : decode prog_90_method_1_code 4 = .ok (.aload_n 0, 1) := by decide +kernel
theorem d_prog_90_method_1_5 : decode prog_90_method_1_code 5 = .ok (.lload_n 1, 1) := by decide +kernel
theorem d_prog_90_method_1_6 : decode prog_90_method_1_code 6 = .ok (.putfield 7, 3) := by decide +kernel
theorem d_prog_90_method_1_9 : decode prog_90_method_1_code 9 = .ok (.aload_n 0, 1) := by decide +kernel
theorem d_prog_90_method_1_10 : decode prog_90_method_1_code 10 = .ok (.lload_n 3, 1) := by decide +kernel
theorem d_prog_90_method_1_11 : decode prog_90_method_1_code 11 = .ok (.putfield 13, 3) := by decide +kernel
theorem d_prog_90_method_1_14 : decode prog_90_method_1_code 14 = .ok (.return_, 1) := by decide +kernel
theorem d_prog_90_method_5_0 : decode prog_90_method_5_code 0 = .ok (.aload_n 0, 1) := by decide +kernel
theorem d_prog_90_method_5_1 : decode prog_90_method_5_code 1 = .ok (.getfield 7, 3) := by decide +kernel
theorem d_prog_90_method_5_4 : decode prog_90_method_5_code 4 = .ok (.lreturn, 1) := by decide +kernel
theorem d_prog_90_method_6_0 : decode prog_90_method_6_code 0 = .ok (.aload_n 0, 1) := by decide +kernel
theorem d_prog_90_method_6_1 : decode prog_90_method_6_code 1 = .ok (.getfield 13, 3) := by decide +kernel
theorem d_prog_90_method_6_4 : decode prog_90_method_6_code 4 = .ok (.lreturn, 1) := by decide +kernel
theorem d_prog_91_method_1_0 : decode prog_91_method_1_code 0 = .ok (.aload_n 0, 1) := by decide +kernel
theorem d_prog_91_method_1_1 : decode prog_91_method_1_code 1 = .ok (.invokespecial 1, 3) := by decide +kernel
theorem d_prog_91_method_1_4 : decode prog_91_method_1_code 4 = .ok (.aload_n 0, 1) := by decide +kernel
theorem d_prog_91_method_1_5 : decode prog_91_method_1_code 5 = .ok (.lload_n 1, 1) := by decide +kernel
theorem d_prog_91_method_1_6 : decode prog_91_method_1_code 6 = .ok (.putfield 7, 3) := by decide +kernel
theorem d_prog_91_method_1_9 : decode prog_91_method_1_code 9 = .ok (.aload_n 0, 1) := by decide +kernel
theorem d_prog_91_method_1_10 : decode prog_91_method_1_code 10 = .ok (.lload_n 3, 1) := by decide +kernel
theorem d_prog_91_method_1_11 : decode prog_91_method_1_code 11 = .ok (.putfield 13, 3) := by decide +kernel
theorem d_prog_91_method_1_14 : decode prog_91_method_1_code 14 = .ok (.aload_n 0, 1) := by decide +kernel
theorem d_prog_91_method_1_15 : decode prog_91_method_1_code 15 = .ok (.lload 5, 2) := by decide +kernel
theorem d_prog_91_method_1_17 : decode prog_91_method_1_code 17 = .ok (.putfield 16, 3) := by decide +kernel
theorem d_prog_91_method_1_20 : decode prog_91_method_1_code 20 = .ok (.aload_n 0, 1) := by decide +kernel
theorem d_prog_91_method_1_21 : decode prog_91_method_1_code 21 = .ok (.lload 7, 2) := by decide +kernel
theorem d_prog_91_method_1_23 : decode prog_91_method_1_code 23 = .ok (.putfield 19, 3) := by decide +kernel
theorem d_prog_91_method_1_26 : decode prog_91_method_1_code 26 = .ok (.return_, 1) := by decide +kernel
theorem d_prog_91_method_5_0 : decode prog_91_method_5_code 0 = .ok (.aload_n 0, 1) := by decide +kernel
theorem d_prog_91_method_5_1 : decode prog_91_method_5_code 1 = .ok (.getfield 7, 3) := by decide +kernel
theorem d_prog_91_method_5_4 : decode prog_91_method_5_code 4 = .ok (.lreturn, 1) := by decide +kernel
theorem d_prog_91_method_6_0 : decode prog_91_method_6_code 0 = .ok (.aload_n 0, 1) := by decide +kernel
theorem d_prog_91_method_6_1 : decode prog_91_method_6_code 1 = .ok (.getfield 13, 3) := by decide +kernel
theorem d_prog_91_method_6_4 : decode prog_91_method_6_code 4 = .ok (.lreturn, 1) := by decide +kernel
theorem d_prog_91_method_7_0 : decode prog_91_method_7_code 0 = .ok (.aload_n 0, 1) := by decide +kernel
theorem d_prog_91_method_7_1 : decode prog_91_method_7_code 1 = .ok (.getfield 16, 3) := by decide +kernel
theorem d_prog_91_method_7_4 : decode prog_91_method_7_code 4 = .ok (.lreturn, 1) := by decide +kernel
theorem d_prog_91_method_8_0 : decode prog_91_method_8_code 0 = .ok (.aload_n 0, 1) := by decide +kernel
theorem d_prog_91_method_8_1 : decode prog_91_method_8_code 1 = .ok (.getfield 19, 3) := by decide +kernel
theorem d_prog_91_method_8_4 : decode prog_91_method_8_code 4 = .ok (.lreturn, 1) := by decide +kernel
theorem wd0 {a0 : Array Value} {Z : State} (hw : ∀ d ∈ tables_1, d.before a0 Z = true) : Jvm.Cond.before (Jvm.Cond.constantLong "com/example/adaptive_mirror/adaptivemirror/net/InFlightIsEmptyPinLaw" (7 : Nat) (1099511627775 : Int64)) a0 Z = true := hw _ (List.mem_of_getElem? (i := 0) rfl)
theorem wd1 {a0 : Array Value} {Z : State} (hw : ∀ d ∈ tables_1, d.before a0 Z = true) : Jvm.Cond.before (Jvm.Cond.constantLong "com/example/adaptive_mirror/adaptivemirror/net/InFlightIsEmptyPinLaw" (11 : Nat) (9223372036854775807 : Int64)) a0 Z = true := hw _ (List.mem_of_getElem? (i := 1) rfl)
theorem wd2 {a0 : Array Value} {Z : State} (hw : ∀ d ∈ tables_1, d.before a0 Z = true) : Jvm.Cond.before (Jvm.Cond.classLink "com/example/adaptive_mirror/adaptivemirror/net/InFlightIsEmptyPinLaw" (13 : Nat) "com/example/adaptive_mirror/adaptivemirror/net/InFlight") a0 Z = true := hw _ (List.mem_of_getElem? (i := 2) rfl)
theorem wd3 {a0 : Array Value} {Z : State} (hw : ∀ d ∈ tables_1, d.before a0 Z = true) : Jvm.Cond.before (Jvm.Cond.instantiable "com/example/adaptive_mirror/adaptivemirror/net/InFlight" (8 : Nat)) a0 Z = true := hw _ (List.mem_of_getElem? (i := 3) rfl)
theorem wd4 {a0 : Array Value} {Z : State} (hw : ∀ d ∈ tables_1, d.before a0 Z = true) : Jvm.Cond.before (Jvm.Cond.initialized "com/example/adaptive_mirror/adaptivemirror/net/InFlight") a0 Z = true := hw _ (List.mem_of_getElem? (i := 4) rfl)
theorem wd5 {a0 : Array Value} {Z : State} (hw : ∀ d ∈ tables_1, d.before a0 Z = true) : Jvm.Cond.before (Jvm.Cond.methodLink "com/example/adaptive_mirror/adaptivemirror/net/InFlightIsEmptyPinLaw" (15 : Nat) ({ cls := "com/example/adaptive_mirror/adaptivemirror/net/InFlight", name := "<init>", desc := "(JJ)V" } : Jvm.MethodName)) a0 Z = true := hw _ (List.mem_of_getElem? (i := 5) rfl)
theorem wd6 {a0 : Array Value} {Z : State} (hw : ∀ d ∈ tables_1, d.before a0 Z = true) : Jvm.Cond.before (Jvm.Cond.instanceMethod ({ cls := "com/example/adaptive_mirror/adaptivemirror/net/InFlight", name := "<init>", desc := "(JJ)V" } : Jvm.MethodName)) a0 Z = true := hw _ (List.mem_of_getElem? (i := 6) rfl)
theorem wd7 {a0 : Array Value} {Z : State} (hw : ∀ d ∈ tables_1, d.before a0 Z = true) : Jvm.Cond.before (Jvm.Cond.code ({ cls := "com/example/adaptive_mirror/adaptivemirror/net/InFlight", name := "<init>", desc := "(JJ)V" } : Jvm.MethodName) prog_89_method_1_code (5 : Nat) (Option.none : Option Jvm.ClassFile.FieldType)) a0 Z = true := hw _ (List.mem_of_getElem? (i := 7) rfl)
theorem wd8 {a0 : Array Value} {Z : State} (hw : ∀ d ∈ tables_1, d.before a0 Z = true) : Jvm.Cond.before (Jvm.Cond.methodLink "com/example/adaptive_mirror/adaptivemirror/net/InFlight" (1 : Nat) ({ cls := "java/lang/Object", name := "<init>", desc := "()V" } : Jvm.MethodName)) a0 Z = true := hw _ (List.mem_of_getElem? (i := 8) rfl)
theorem wd9 {a0 : Array Value} {Z : State} (hw : ∀ d ∈ tables_1, d.before a0 Z = true) : Jvm.Cond.before (Jvm.Cond.instanceMethod ({ cls := "java/lang/Object", name := "<init>", desc := "()V" } : Jvm.MethodName)) a0 Z = true := hw _ (List.mem_of_getElem? (i := 9) rfl)
theorem wd10 {a0 : Array Value} {Z : State} (hw : ∀ d ∈ tables_1, d.before a0 Z = true) : Jvm.Cond.before (Jvm.Cond.code ({ cls := "java/lang/Object", name := "<init>", desc := "()V" } : Jvm.MethodName) object_method_1_code (1 : Nat) (Option.none : Option Jvm.ClassFile.FieldType)) a0 Z = true := hw _ (List.mem_of_getElem? (i := 10) rfl)
theorem wd11 {a0 : Array Value} {Z : State} (hw : ∀ d ∈ tables_1, d.before a0 Z = true) : Jvm.Cond.before (Jvm.Cond.classLink "com/example/adaptive_mirror/adaptivemirror/net/InFlight" (7 : Nat) "java/util/ArrayDeque") a0 Z = true := hw _ (List.mem_of_getElem? (i := 11) rfl)
theorem wd12 {a0 : Array Value} {Z : State} (hw : ∀ d ∈ tables_1, d.before a0 Z = true) : Jvm.Cond.before (Jvm.Cond.instantiable "java/util/ArrayDeque" (3 : Nat)) a0 Z = true := hw _ (List.mem_of_getElem? (i := 12) rfl)
theorem wd13 {a0 : Array Value} {Z : State} (hw : ∀ d ∈ tables_1, d.before a0 Z = true) : Jvm.Cond.before (Jvm.Cond.initialized "java/util/ArrayDeque") a0 Z = true := hw _ (List.mem_of_getElem? (i := 13) rfl)
theorem wd14 {a0 : Array Value} {Z : State} (hw : ∀ d ∈ tables_1, d.before a0 Z = true) : Jvm.Cond.before (Jvm.Cond.methodLink "com/example/adaptive_mirror/adaptivemirror/net/InFlight" (9 : Nat) ({ cls := "java/util/ArrayDeque", name := "<init>", desc := "(I)V" } : Jvm.MethodName)) a0 Z = true := hw _ (List.mem_of_getElem? (i := 14) rfl)
theorem wd15 {a0 : Array Value} {Z : State} (hw : ∀ d ∈ tables_1, d.before a0 Z = true) : Jvm.Cond.before (Jvm.Cond.instanceMethod ({ cls := "java/util/ArrayDeque", name := "<init>", desc := "(I)V" } : Jvm.MethodName)) a0 Z = true := hw _ (List.mem_of_getElem? (i := 15) rfl)
theorem wd16 {a0 : Array Value} {Z : State} (hw : ∀ d ∈ tables_1, d.before a0 Z = true) : Jvm.Cond.before (Jvm.Cond.code ({ cls := "java/util/ArrayDeque", name := "<init>", desc := "(I)V" } : Jvm.MethodName) jdk_21_method_4_code (2 : Nat) (Option.none : Option Jvm.ClassFile.FieldType)) a0 Z = true := hw _ (List.mem_of_getElem? (i := 16) rfl)
theorem wd17 {a0 : Array Value} {Z : State} (hw : ∀ d ∈ tables_1, d.before a0 Z = true) : Jvm.Cond.before (Jvm.Cond.methodLink "java/util/ArrayDeque" (42 : Nat) ({ cls := "java/util/AbstractCollection", name := "<init>", desc := "()V" } : Jvm.MethodName)) a0 Z = true := hw _ (List.mem_of_getElem? (i := 17) rfl)
theorem wd18 {a0 : Array Value} {Z : State} (hw : ∀ d ∈ tables_1, d.before a0 Z = true) : Jvm.Cond.before (Jvm.Cond.instanceMethod ({ cls := "java/util/AbstractCollection", name := "<init>", desc := "()V" } : Jvm.MethodName)) a0 Z = true := hw _ (List.mem_of_getElem? (i := 18) rfl)
theorem wd21 {a0 : Array Value} {Z : State} (hw : ∀ d ∈ tables_1, d.before a0 Z = true) : Jvm.Cond.before (Jvm.Cond.initialized "java/util/AbstractCollection") a0 Z = true := hw _ (List.mem_of_getElem? (i := 21) rfl)
theorem wd22 {a0 : Array Value} {Z : State} (hw : ∀ d ∈ tables_1, d.before a0 Z = true) : Jvm.Cond.before (Jvm.Cond.code ({ cls := "java/util/AbstractCollection", name := "<init>", desc := "()V" } : Jvm.MethodName) jdk_22_method_1_code (1 : Nat) (Option.none : Option Jvm.ClassFile.FieldType)) a0 Z = true := hw _ (List.mem_of_getElem? (i := 22) rfl)
theorem wd23 {a0 : Array Value} {Z : State} (hw : ∀ d ∈ tables_1, d.before a0 Z = true) : Jvm.Cond.before (Jvm.Cond.methodLink "java/util/AbstractCollection" (1 : Nat) ({ cls := "java/lang/Object", name := "<init>", desc := "()V" } : Jvm.MethodName)) a0 Z = true := hw _ (List.mem_of_getElem? (i := 23) rfl)
theorem wd24 {a0 : Array Value} {Z : State} (hw : ∀ d ∈ tables_1, d.before a0 Z = true) : Jvm.Cond.before (Jvm.Cond.constant "java/util/ArrayDeque" (41 : Nat) (2147483647 : Int32)) a0 Z = true := hw _ (List.mem_of_getElem? (i := 24) rfl)
theorem wd25 {a0 : Array Value} {Z : State} (hw : ∀ d ∈ tables_1, d.before a0 Z = true) : Jvm.Cond.before (Jvm.Cond.classLink "java/util/ArrayDeque" (47 : Nat) "java/lang/Object") a0 Z = true := hw _ (List.mem_of_getElem? (i := 25) rfl)
theorem wd26 {a0 : Array Value} {Z : State} (hw : ∀ d ∈ tables_1, d.before a0 Z = true) : Jvm.Cond.before (Jvm.Cond.arrayOver (Jvm.ClassFile.FieldType.object "java/lang/Object")) a0 Z = true := hw _ (List.mem_of_getElem? (i := 26) rfl)
theorem wd27 {a0 : Array Value} {Z : State} (hw : ∀ d ∈ tables_1, d.before a0 Z = true) : Jvm.Cond.before (Jvm.Cond.fieldLink "java/util/ArrayDeque" (3 : Nat) "java/util/ArrayDeque" "elements" "[Ljava/lang/Object;") a0 Z = true := hw _ (List.mem_of_getElem? (i := 27) rfl)
theorem wd28 {a0 : Array Value} {Z : State} (hw : ∀ d ∈ tables_1, d.before a0 Z = true) : Jvm.Cond.before (Jvm.Cond.lays "java/util/ArrayDeque" "java/util/ArrayDeque" "elements" "[Ljava/lang/Object;") a0 Z = true := hw _ (List.mem_of_getElem? (i := 28) rfl)
theorem wd29 {a0 : Array Value} {Z : State} (hw : ∀ d ∈ tables_1, d.before a0 Z = true) : Jvm.Cond.before (Jvm.Cond.fieldLink "com/example/adaptive_mirror/adaptivemirror/net/InFlight" (12 : Nat) "com/example/adaptive_mirror/adaptivemirror/net/InFlight" "frames" "Ljava/util/Queue;") a0 Z = true := hw _ (List.mem_of_getElem? (i := 29) rfl)
theorem wd30 {a0 : Array Value} {Z : State} (hw : ∀ d ∈ tables_1, d.before a0 Z = true) : Jvm.Cond.before (Jvm.Cond.laysFinal "com/example/adaptive_mirror/adaptivemirror/net/InFlight" "com/example/adaptive_mirror/adaptivemirror/net/InFlight" "frames" "Ljava/util/Queue;") a0 Z = true := hw _ (List.mem_of_getElem? (i := 30) rfl)
theorem wd31 {a0 : Array Value} {Z : State} (hw : ∀ d ∈ tables_1, d.before a0 Z = true) : Jvm.Cond.before (Jvm.Cond.fieldLink "com/example/adaptive_mirror/adaptivemirror/net/InFlight" (18 : Nat) "com/example/adaptive_mirror/adaptivemirror/net/InFlight" "flushes" "Ljava/util/Queue;") a0 Z = true := hw _ (List.mem_of_getElem? (i := 31) rfl)
theorem wd32 {a0 : Array Value} {Z : State} (hw : ∀ d ∈ tables_1, d.before a0 Z = true) : Jvm.Cond.before (Jvm.Cond.laysFinal "com/example/adaptive_mirror/adaptivemirror/net/InFlight" "com/example/adaptive_mirror/adaptivemirror/net/InFlight" "flushes" "Ljava/util/Queue;") a0 Z = true := hw _ (List.mem_of_getElem? (i := 32) rfl)
theorem wd33 {a0 : Array Value} {Z : State} (hw : ∀ d ∈ tables_1, d.before a0 Z = true) : Jvm.Cond.before (Jvm.Cond.constantLong "com/example/adaptive_mirror/adaptivemirror/net/InFlight" (23 : Nat) (9223372036854775807 : Int64)) a0 Z = true := hw _ (List.mem_of_getElem? (i := 33) rfl)
theorem wd34 {a0 : Array Value} {Z : State} (hw : ∀ d ∈ tables_1, d.before a0 Z = true) : Jvm.Cond.before (Jvm.Cond.fieldLink "com/example/adaptive_mirror/adaptivemirror/net/InFlight" (25 : Nat) "com/example/adaptive_mirror/adaptivemirror/net/InFlight" "roundTrip" "J") a0 Z = true := hw _ (List.mem_of_getElem? (i := 34) rfl)
theorem wd35 {a0 : Array Value} {Z : State} (hw : ∀ d ∈ tables_1, d.before a0 Z = true) : Jvm.Cond.before (Jvm.Cond.lays "com/example/adaptive_mirror/adaptivemirror/net/InFlight" "com/example/adaptive_mirror/adaptivemirror/net/InFlight" "roundTrip" "J") a0 Z = true := hw _ (List.mem_of_getElem? (i := 35) rfl)
theorem wd36 {a0 : Array Value} {Z : State} (hw : ∀ d ∈ tables_1, d.before a0 Z = true) : Jvm.Cond.before (Jvm.Cond.fieldLink "com/example/adaptive_mirror/adaptivemirror/net/InFlight" (29 : Nat) "com/example/adaptive_mirror/adaptivemirror/net/InFlight" "written" "J") a0 Z = true := hw _ (List.mem_of_getElem? (i := 36) rfl)
theorem wd37 {a0 : Array Value} {Z : State} (hw : ∀ d ∈ tables_1, d.before a0 Z = true) : Jvm.Cond.before (Jvm.Cond.lays "com/example/adaptive_mirror/adaptivemirror/net/InFlight" "com/example/adaptive_mirror/adaptivemirror/net/InFlight" "written" "J") a0 Z = true := hw _ (List.mem_of_getElem? (i := 37) rfl)
theorem wd38 {a0 : Array Value} {Z : State} (hw : ∀ d ∈ tables_1, d.before a0 Z = true) : Jvm.Cond.before (Jvm.Cond.fieldLink "com/example/adaptive_mirror/adaptivemirror/net/InFlight" (32 : Nat) "com/example/adaptive_mirror/adaptivemirror/net/InFlight" "flushed" "J") a0 Z = true := hw _ (List.mem_of_getElem? (i := 38) rfl)
theorem wd39 {a0 : Array Value} {Z : State} (hw : ∀ d ∈ tables_1, d.before a0 Z = true) : Jvm.Cond.before (Jvm.Cond.lays "com/example/adaptive_mirror/adaptivemirror/net/InFlight" "com/example/adaptive_mirror/adaptivemirror/net/InFlight" "flushed" "J") a0 Z = true := hw _ (List.mem_of_getElem? (i := 39) rfl)
theorem wd40 {a0 : Array Value} {Z : State} (hw : ∀ d ∈ tables_1, d.before a0 Z = true) : Jvm.Cond.before (Jvm.Cond.classLink "com/example/adaptive_mirror/adaptivemirror/net/InFlight" (35 : Nat) "com/example/adaptive_mirror/adaptivemirror/net/InFlight$Flush") a0 Z = true := hw _ (List.mem_of_getElem? (i := 40) rfl)
theorem wd41 {a0 : Array Value} {Z : State} (hw : ∀ d ∈ tables_1, d.before a0 Z = true) : Jvm.Cond.before (Jvm.Cond.instantiable "com/example/adaptive_mirror/adaptivemirror/net/InFlight$Flush" (2 : Nat)) a0 Z = true := hw _ (List.mem_of_getElem? (i := 41) rfl)
theorem wd42 {a0 : Array Value} {Z : State} (hw : ∀ d ∈ tables_1, d.before a0 Z = true) : Jvm.Cond.before (Jvm.Cond.initialized "com/example/adaptive_mirror/adaptivemirror/net/InFlight$Flush") a0 Z = true := hw _ (List.mem_of_getElem? (i := 42) rfl)
theorem wd43 {a0 : Array Value} {Z : State} (hw : ∀ d ∈ tables_1, d.before a0 Z = true) : Jvm.Cond.before (Jvm.Cond.methodRef "com/example/adaptive_mirror/adaptivemirror/net/InFlight" (37 : Nat) ({ cls := "com/example/adaptive_mirror/adaptivemirror/net/InFlight$Flush", name := "<init>", desc := "(JJ)V" } : Jvm.MethodName)) a0 Z = true := hw _ (List.mem_of_getElem? (i := 43) rfl)
theorem wd44 {a0 : Array Value} {Z : State} (hw : ∀ d ∈ tables_1, d.before a0 Z = true) : Jvm.Cond.before (Jvm.Cond.instanceMethod ({ cls := "com/example/adaptive_mirror/adaptivemirror/net/InFlight$Flush", name := "<init>", desc := "(JJ)V" } : Jvm.MethodName)) a0 Z = true := hw _ (List.mem_of_getElem? (i := 44) rfl)
theorem wd45 {a0 : Array Value} {Z : State} (hw : ∀ d ∈ tables_1, d.before a0 Z = true) : Jvm.Cond.before (Jvm.Cond.code ({ cls := "com/example/adaptive_mirror/adaptivemirror/net/InFlight$Flush", name := "<init>", desc := "(JJ)V" } : Jvm.MethodName) prog_90_method_1_code (5 : Nat) (Option.none : Option Jvm.ClassFile.FieldType)) a0 Z = true := hw _ (List.mem_of_getElem? (i := 45) rfl)
theorem wd46 {a0 : Array Value} {Z : State} (hw : ∀ d ∈ tables_1, d.before a0 Z = true) : Jvm.Cond.before (Jvm.Cond.methodLink "com/example/adaptive_mirror/adaptivemirror/net/InFlight$Flush" (1 : Nat) ({ cls := "java/lang/Record", name := "<init>", desc := "()V" } : Jvm.MethodName)) a0 Z = true := hw _ (List.mem_of_getElem? (i := 46) rfl)
theorem wd47 {a0 : Array Value} {Z : State} (hw : ∀ d ∈ tables_1, d.before a0 Z = true) : Jvm.Cond.before (Jvm.Cond.instanceMethod ({ cls := "java/lang/Record", name := "<init>", desc := "()V" } : Jvm.MethodName)) a0 Z = true := hw _ (List.mem_of_getElem? (i := 47) rfl)
theorem wd49 {a0 : Array Value} {Z : State} (hw : ∀ d ∈ tables_1, d.before a0 Z = true) : Jvm.Cond.before (Jvm.Cond.initialized "java/lang/Record") a0 Z = true := hw _ (List.mem_of_getElem? (i := 49) rfl)
theorem wd50 {a0 : Array Value} {Z : State} (hw : ∀ d ∈ tables_1, d.before a0 Z = true) : Jvm.Cond.before (Jvm.Cond.code ({ cls := "java/lang/Record", name := "<init>", desc := "()V" } : Jvm.MethodName) jdk_30_method_1_code (1 : Nat) (Option.none : Option Jvm.ClassFile.FieldType)) a0 Z = true := hw _ (List.mem_of_getElem? (i := 50) rfl)
theorem wd51 {a0 : Array Value} {Z : State} (hw : ∀ d ∈ tables_1, d.before a0 Z = true) : Jvm.Cond.before (Jvm.Cond.methodLink "java/lang/Record" (1 : Nat) ({ cls := "java/lang/Object", name := "<init>", desc := "()V" } : Jvm.MethodName)) a0 Z = true := hw _ (List.mem_of_getElem? (i := 51) rfl)
theorem wd52 {a0 : Array Value} {Z : State} (hw : ∀ d ∈ tables_1, d.before a0 Z = true) : Jvm.Cond.before (Jvm.Cond.fieldLink "com/example/adaptive_mirror/adaptivemirror/net/InFlight$Flush" (7 : Nat) "com/example/adaptive_mirror/adaptivemirror/net/InFlight$Flush" "end" "J") a0 Z = true := hw _ (List.mem_of_getElem? (i := 52) rfl)
theorem wd53 {a0 : Array Value} {Z : State} (hw : ∀ d ∈ tables_1, d.before a0 Z = true) : Jvm.Cond.before (Jvm.Cond.laysFinal "com/example/adaptive_mirror/adaptivemirror/net/InFlight$Flush" "com/example/adaptive_mirror/adaptivemirror/net/InFlight$Flush" "end" "J") a0 Z = true := hw _ (List.mem_of_getElem? (i := 53) rfl)
theorem wd54 {a0 : Array Value} {Z : State} (hw : ∀ d ∈ tables_1, d.before a0 Z = true) : Jvm.Cond.before (Jvm.Cond.fieldLink "com/example/adaptive_mirror/adaptivemirror/net/InFlight$Flush" (13 : Nat) "com/example/adaptive_mirror/adaptivemirror/net/InFlight$Flush" "at" "J") a0 Z = true := hw _ (List.mem_of_getElem? (i := 54) rfl)
theorem wd55 {a0 : Array Value} {Z : State} (hw : ∀ d ∈ tables_1, d.before a0 Z = true) : Jvm.Cond.before (Jvm.Cond.laysFinal "com/example/adaptive_mirror/adaptivemirror/net/InFlight$Flush" "com/example/adaptive_mirror/adaptivemirror/net/InFlight$Flush" "at" "J") a0 Z = true := hw _ (List.mem_of_getElem? (i := 55) rfl)
theorem wd56 {a0 : Array Value} {Z : State} (hw : ∀ d ∈ tables_1, d.before a0 Z = true) : Jvm.Cond.before (Jvm.Cond.methodLink "com/example/adaptive_mirror/adaptivemirror/net/InFlight" (40 : Nat) ({ cls := "java/util/Queue", name := "add", desc := "(Ljava/lang/Object;)Z" } : Jvm.MethodName)) a0 Z = true := hw _ (List.mem_of_getElem? (i := 56) rfl)
theorem wd57 {a0 : Array Value} {Z : State} (hw : ∀ d ∈ tables_1, d.before a0 Z = true) : Jvm.Cond.before (Jvm.Cond.declares ({ cls := "java/util/Queue", name := "add", desc := "(Ljava/lang/Object;)Z" } : Jvm.MethodName)) a0 Z = true := hw _ (List.mem_of_getElem? (i := 57) rfl)
theorem wd58 {a0 : Array Value} {Z : State} (hw : ∀ d ∈ tables_1, d.before a0 Z = true) : Jvm.Cond.before (Jvm.Cond.interfaceMethod "java/util/Queue" "java/util/Queue" "add" "(Ljava/lang/Object;)Z") a0 Z = true := hw _ (List.mem_of_getElem? (i := 58) rfl)
theorem wd59 {a0 : Array Value} {Z : State} (hw : ∀ d ∈ tables_1, d.before a0 Z = true) : Jvm.Cond.before (Jvm.Cond.selects "java/util/ArrayDeque" ({ cls := "java/util/Queue", name := "add", desc := "(Ljava/lang/Object;)Z" } : Jvm.MethodName) ({ cls := "java/util/ArrayDeque", name := "add", desc := "(Ljava/lang/Object;)Z" } : Jvm.MethodName)) a0 Z = true := hw _ (List.mem_of_getElem? (i := 59) rfl)
theorem wd60 {a0 : Array Value} {Z : State} (hw : ∀ d ∈ tables_1, d.before a0 Z = true) : Jvm.Cond.before (Jvm.Cond.instanceMethod ({ cls := "java/util/ArrayDeque", name := "add", desc := "(Ljava/lang/Object;)Z" } : Jvm.MethodName)) a0 Z = true := hw _ (List.mem_of_getElem? (i := 60) rfl)
theorem wd61 {a0 : Array Value} {Z : State} (hw : ∀ d ∈ tables_1, d.before a0 Z = true) : Jvm.Cond.before (Jvm.Cond.publicMethod ({ cls := "java/util/ArrayDeque", name := "add", desc := "(Ljava/lang/Object;)Z" } : Jvm.MethodName)) a0 Z = true := hw _ (List.mem_of_getElem? (i := 61) rfl)
theorem wd62 {a0 : Array Value} {Z : State} (hw : ∀ d ∈ tables_1, d.before a0 Z = true) : Jvm.Cond.before (Jvm.Cond.unhidden "java/util/ArrayDeque" "add" "(Ljava/lang/Object;)Z") a0 Z = true := hw _ (List.mem_of_getElem? (i := 62) rfl)
theorem wd63 {a0 : Array Value} {Z : State} (hw : ∀ d ∈ tables_1, d.before a0 Z = true) : Jvm.Cond.before (Jvm.Cond.castable "java/util/ArrayDeque" "java/util/Queue") a0 Z = true := hw _ (List.mem_of_getElem? (i := 63) rfl)
theorem wd64 {a0 : Array Value} {Z : State} (hw : ∀ d ∈ tables_1, d.before a0 Z = true) : Jvm.Cond.before (Jvm.Cond.code ({ cls := "java/util/ArrayDeque", name := "add", desc := "(Ljava/lang/Object;)Z" } : Jvm.MethodName) jdk_21_method_28_code (2 : Nat) (Option.some Jvm.ClassFile.FieldType.boolean)) a0 Z = true := hw _ (List.mem_of_getElem? (i := 64) rfl)
theorem wd65 {a0 : Array Value} {Z : State} (hw : ∀ d ∈ tables_1, d.before a0 Z = true) : Jvm.Cond.before (Jvm.Cond.methodLink "java/util/ArrayDeque" (90 : Nat) ({ cls := "java/util/ArrayDeque", name := "addLast", desc := "(Ljava/lang/Object;)V" } : Jvm.MethodName)) a0 Z = true := hw _ (List.mem_of_getElem? (i := 65) rfl)
theorem wd66 {a0 : Array Value} {Z : State} (hw : ∀ d ∈ tables_1, d.before a0 Z = true) : Jvm.Cond.before (Jvm.Cond.declares ({ cls := "java/util/ArrayDeque", name := "addLast", desc := "(Ljava/lang/Object;)V" } : Jvm.MethodName)) a0 Z = true := hw _ (List.mem_of_getElem? (i := 66) rfl)
theorem wd67 {a0 : Array Value} {Z : State} (hw : ∀ d ∈ tables_1, d.before a0 Z = true) : Jvm.Cond.before (Jvm.Cond.instanceMethod ({ cls := "java/util/ArrayDeque", name := "addLast", desc := "(Ljava/lang/Object;)V" } : Jvm.MethodName)) a0 Z = true := hw _ (List.mem_of_getElem? (i := 67) rfl)
theorem wd68 {a0 : Array Value} {Z : State} (hw : ∀ d ∈ tables_1, d.before a0 Z = true) : Jvm.Cond.before (Jvm.Cond.selects "java/util/ArrayDeque" ({ cls := "java/util/ArrayDeque", name := "addLast", desc := "(Ljava/lang/Object;)V" } : Jvm.MethodName) ({ cls := "java/util/ArrayDeque", name := "addLast", desc := "(Ljava/lang/Object;)V" } : Jvm.MethodName)) a0 Z = true := hw _ (List.mem_of_getElem? (i := 68) rfl)
theorem wd69 {a0 : Array Value} {Z : State} (hw : ∀ d ∈ tables_1, d.before a0 Z = true) : Jvm.Cond.before (Jvm.Cond.code ({ cls := "java/util/ArrayDeque", name := "addLast", desc := "(Ljava/lang/Object;)V" } : Jvm.MethodName) jdk_21_method_13_code (3 : Nat) (Option.none : Option Jvm.ClassFile.FieldType)) a0 Z = true := hw _ (List.mem_of_getElem? (i := 69) rfl)
theorem wd70 {a0 : Array Value} {Z : State} (hw : ∀ d ∈ tables_1, d.before a0 Z = true) : Jvm.Cond.before (Jvm.Cond.fieldLink "java/util/ArrayDeque" (20 : Nat) "java/util/ArrayDeque" "tail" "I") a0 Z = true := hw _ (List.mem_of_getElem? (i := 70) rfl)
theorem wd71 {a0 : Array Value} {Z : State} (hw : ∀ d ∈ tables_1, d.before a0 Z = true) : Jvm.Cond.before (Jvm.Cond.lays "java/util/ArrayDeque" "java/util/ArrayDeque" "tail" "I") a0 Z = true := hw _ (List.mem_of_getElem? (i := 71) rfl)
theorem wd72 {a0 : Array Value} {Z : State} (hw : ∀ d ∈ tables_1, d.before a0 Z = true) : Jvm.Cond.before (Jvm.Cond.castable "com/example/adaptive_mirror/adaptivemirror/net/InFlight$Flush" "java/lang/Object") a0 Z = true := hw _ (List.mem_of_getElem? (i := 72) rfl)
theorem wd73 {a0 : Array Value} {Z : State} (hw : ∀ d ∈ tables_1, d.before a0 Z = true) : Jvm.Cond.before (Jvm.Cond.fieldLink "java/util/ArrayDeque" (24 : Nat) "java/util/ArrayDeque" "head" "I") a0 Z = true := hw _ (List.mem_of_getElem? (i := 73) rfl)
theorem wd74 {a0 : Array Value} {Z : State} (hw : ∀ d ∈ tables_1, d.before a0 Z = true) : Jvm.Cond.before (Jvm.Cond.lays "java/util/ArrayDeque" "java/util/ArrayDeque" "head" "I") a0 Z = true := hw _ (List.mem_of_getElem? (i := 74) rfl)
theorem wd75 {a0 : Array Value} {Z : State} (hw : ∀ d ∈ tables_1, d.before a0 Z = true) : Jvm.Cond.before (Jvm.Cond.methodLink "java/util/ArrayDeque" (74 : Nat) ({ cls := "java/util/ArrayDeque", name := "inc", desc := "(II)I" } : Jvm.MethodName)) a0 Z = true := hw _ (List.mem_of_getElem? (i := 75) rfl)
theorem wd76 {a0 : Array Value} {Z : State} (hw : ∀ d ∈ tables_1, d.before a0 Z = true) : Jvm.Cond.before (Jvm.Cond.static ({ cls := "java/util/ArrayDeque", name := "inc", desc := "(II)I" } : Jvm.MethodName)) a0 Z = true := hw _ (List.mem_of_getElem? (i := 76) rfl)
theorem wd77 {a0 : Array Value} {Z : State} (hw : ∀ d ∈ tables_1, d.before a0 Z = true) : Jvm.Cond.before (Jvm.Cond.code ({ cls := "java/util/ArrayDeque", name := "inc", desc := "(II)I" } : Jvm.MethodName) jdk_21_method_6_code (2 : Nat) (Option.some Jvm.ClassFile.FieldType.int)) a0 Z = true := hw _ (List.mem_of_getElem? (i := 77) rfl)
theorem wd78 {a0 : Array Value} {Z : State} (hw : ∀ d ∈ tables_1, d.before a0 Z = true) : Jvm.Cond.before (Jvm.Cond.methodLink "com/example/adaptive_mirror/adaptivemirror/net/InFlightIsEmptyPinLaw" (18 : Nat) ({ cls := "com/example/adaptive_mirror/adaptivemirror/net/InFlight", name := "isEmpty", desc := "()Z" } : Jvm.MethodName)) a0 Z = true := hw _ (List.mem_of_getElem? (i := 78) rfl)
theorem wd79 {a0 : Array Value} {Z : State} (hw : ∀ d ∈ tables_1, d.before a0 Z = true) : Jvm.Cond.before (Jvm.Cond.declares ({ cls := "com/example/adaptive_mirror/adaptivemirror/net/InFlight", name := "isEmpty", desc := "()Z" } : Jvm.MethodName)) a0 Z = true := hw _ (List.mem_of_getElem? (i := 79) rfl)
theorem wd80 {a0 : Array Value} {Z : State} (hw : ∀ d ∈ tables_1, d.before a0 Z = true) : Jvm.Cond.before (Jvm.Cond.instanceMethod ({ cls := "com/example/adaptive_mirror/adaptivemirror/net/InFlight", name := "isEmpty", desc := "()Z" } : Jvm.MethodName)) a0 Z = true := hw _ (List.mem_of_getElem? (i := 80) rfl)
theorem wd81 {a0 : Array Value} {Z : State} (hw : ∀ d ∈ tables_1, d.before a0 Z = true) : Jvm.Cond.before (Jvm.Cond.selects "com/example/adaptive_mirror/adaptivemirror/net/InFlight" ({ cls := "com/example/adaptive_mirror/adaptivemirror/net/InFlight", name := "isEmpty", desc := "()Z" } : Jvm.MethodName) ({ cls := "com/example/adaptive_mirror/adaptivemirror/net/InFlight", name := "isEmpty", desc := "()Z" } : Jvm.MethodName)) a0 Z = true := hw _ (List.mem_of_getElem? (i := 81) rfl)
theorem wd82 {a0 : Array Value} {Z : State} (hw : ∀ d ∈ tables_1, d.before a0 Z = true) : Jvm.Cond.before (Jvm.Cond.code ({ cls := "com/example/adaptive_mirror/adaptivemirror/net/InFlight", name := "isEmpty", desc := "()Z" } : Jvm.MethodName) prog_89_method_2_code (1 : Nat) (Option.some Jvm.ClassFile.FieldType.boolean)) a0 Z = true := hw _ (List.mem_of_getElem? (i := 82) rfl)
theorem wd83 {a0 : Array Value} {Z : State} (hw : ∀ d ∈ tables_1, d.before a0 Z = true) : Jvm.Cond.before (Jvm.Cond.fieldLink "com/example/adaptive_mirror/adaptivemirror/net/InFlight" (46 : Nat) "com/example/adaptive_mirror/adaptivemirror/net/InFlight" "acknowledged" "J") a0 Z = true := hw _ (List.mem_of_getElem? (i := 83) rfl)
theorem wd84 {a0 : Array Value} {Z : State} (hw : ∀ d ∈ tables_1, d.before a0 Z = true) : Jvm.Cond.before (Jvm.Cond.lays "com/example/adaptive_mirror/adaptivemirror/net/InFlight" "com/example/adaptive_mirror/adaptivemirror/net/InFlight" "acknowledged" "J") a0 Z = true := hw _ (List.mem_of_getElem? (i := 84) rfl)
theorem wd85 {a0 : Array Value} {Z : State} (hw : ∀ d ∈ tables_1, d.before a0 Z = true) : Jvm.Cond.before (Jvm.Cond.methodLink "com/example/adaptive_mirror/adaptivemirror/net/InFlightIsEmptyPinLaw" (22 : Nat) ({ cls := "com/example/adaptive_mirror/adaptivemirror/net/InFlight", name := "written", desc := "(JJ)J" } : Jvm.MethodName)) a0 Z = true := hw _ (List.mem_of_getElem? (i := 85) rfl)
theorem wd86 {a0 : Array Value} {Z : State} (hw : ∀ d ∈ tables_1, d.before a0 Z = true) : Jvm.Cond.before (Jvm.Cond.declares ({ cls := "com/example/adaptive_mirror/adaptivemirror/net/InFlight", name := "written", desc := "(JJ)J" } : Jvm.MethodName)) a0 Z = true := hw _ (List.mem_of_getElem? (i := 86) rfl)
theorem wd87 {a0 : Array Value} {Z : State} (hw : ∀ d ∈ tables_1, d.before a0 Z = true) : Jvm.Cond.before (Jvm.Cond.instanceMethod ({ cls := "com/example/adaptive_mirror/adaptivemirror/net/InFlight", name := "written", desc := "(JJ)J" } : Jvm.MethodName)) a0 Z = true := hw _ (List.mem_of_getElem? (i := 87) rfl)
theorem wd88 {a0 : Array Value} {Z : State} (hw : ∀ d ∈ tables_1, d.before a0 Z = true) : Jvm.Cond.before (Jvm.Cond.selects "com/example/adaptive_mirror/adaptivemirror/net/InFlight" ({ cls := "com/example/adaptive_mirror/adaptivemirror/net/InFlight", name := "written", desc := "(JJ)J" } : Jvm.MethodName) ({ cls := "com/example/adaptive_mirror/adaptivemirror/net/InFlight", name := "written", desc := "(JJ)J" } : Jvm.MethodName)) a0 Z = true := hw _ (List.mem_of_getElem? (i := 88) rfl)
theorem wd89 {a0 : Array Value} {Z : State} (hw : ∀ d ∈ tables_1, d.before a0 Z = true) : Jvm.Cond.before (Jvm.Cond.code ({ cls := "com/example/adaptive_mirror/adaptivemirror/net/InFlight", name := "written", desc := "(JJ)J" } : Jvm.MethodName) prog_89_method_6_code (7 : Nat) (Option.some Jvm.ClassFile.FieldType.long)) a0 Z = true := hw _ (List.mem_of_getElem? (i := 89) rfl)
theorem wd90 {a0 : Array Value} {Z : State} (hw : ∀ d ∈ tables_1, d.before a0 Z = true) : Jvm.Cond.before (Jvm.Cond.classLink "com/example/adaptive_mirror/adaptivemirror/net/InFlight" (66 : Nat) "com/example/adaptive_mirror/adaptivemirror/net/InFlight$Frame") a0 Z = true := hw _ (List.mem_of_getElem? (i := 90) rfl)
theorem wd91 {a0 : Array Value} {Z : State} (hw : ∀ d ∈ tables_1, d.before a0 Z = true) : Jvm.Cond.before (Jvm.Cond.instantiable "com/example/adaptive_mirror/adaptivemirror/net/InFlight$Frame" (4 : Nat)) a0 Z = true := hw _ (List.mem_of_getElem? (i := 91) rfl)
theorem wd92 {a0 : Array Value} {Z : State} (hw : ∀ d ∈ tables_1, d.before a0 Z = true) : Jvm.Cond.before (Jvm.Cond.initialized "com/example/adaptive_mirror/adaptivemirror/net/InFlight$Frame") a0 Z = true := hw _ (List.mem_of_getElem? (i := 92) rfl)
theorem wd93 {a0 : Array Value} {Z : State} (hw : ∀ d ∈ tables_1, d.before a0 Z = true) : Jvm.Cond.before (Jvm.Cond.methodLink "com/example/adaptive_mirror/adaptivemirror/net/InFlight" (49 : Nat) ({ cls := "com/example/adaptive_mirror/adaptivemirror/net/InFlight", name := "limit", desc := "()J" } : Jvm.MethodName)) a0 Z = true := hw _ (List.mem_of_getElem? (i := 93) rfl)
theorem wd94 {a0 : Array Value} {Z : State} (hw : ∀ d ∈ tables_1, d.before a0 Z = true) : Jvm.Cond.before (Jvm.Cond.declares ({ cls := "com/example/adaptive_mirror/adaptivemirror/net/InFlight", name := "limit", desc := "()J" } : Jvm.MethodName)) a0 Z = true := hw _ (List.mem_of_getElem? (i := 94) rfl)
theorem wd95 {a0 : Array Value} {Z : State} (hw : ∀ d ∈ tables_1, d.before a0 Z = true) : Jvm.Cond.before (Jvm.Cond.instanceMethod ({ cls := "com/example/adaptive_mirror/adaptivemirror/net/InFlight", name := "limit", desc := "()J" } : Jvm.MethodName)) a0 Z = true := hw _ (List.mem_of_getElem? (i := 95) rfl)
theorem wd96 {a0 : Array Value} {Z : State} (hw : ∀ d ∈ tables_1, d.before a0 Z = true) : Jvm.Cond.before (Jvm.Cond.selects "com/example/adaptive_mirror/adaptivemirror/net/InFlight" ({ cls := "com/example/adaptive_mirror/adaptivemirror/net/InFlight", name := "limit", desc := "()J" } : Jvm.MethodName) ({ cls := "com/example/adaptive_mirror/adaptivemirror/net/InFlight", name := "limit", desc := "()J" } : Jvm.MethodName)) a0 Z = true := hw _ (List.mem_of_getElem? (i := 96) rfl)
theorem wd97 {a0 : Array Value} {Z : State} (hw : ∀ d ∈ tables_1, d.before a0 Z = true) : Jvm.Cond.before (Jvm.Cond.code ({ cls := "com/example/adaptive_mirror/adaptivemirror/net/InFlight", name := "limit", desc := "()J" } : Jvm.MethodName) prog_89_method_5_code (1 : Nat) (Option.some Jvm.ClassFile.FieldType.long)) a0 Z = true := hw _ (List.mem_of_getElem? (i := 97) rfl)
theorem wd98 {a0 : Array Value} {Z : State} (hw : ∀ d ∈ tables_1, d.before a0 Z = true) : Jvm.Cond.before (Jvm.Cond.constantLong "com/example/adaptive_mirror/adaptivemirror/net/InFlight" (53 : Nat) (65536 : Int64)) a0 Z = true := hw _ (List.mem_of_getElem? (i := 98) rfl)
theorem wd99 {a0 : Array Value} {Z : State} (hw : ∀ d ∈ tables_1, d.before a0 Z = true) : Jvm.Cond.before (Jvm.Cond.constantLong "com/example/adaptive_mirror/adaptivemirror/net/InFlight" (55 : Nat) (2 : Int64)) a0 Z = true := hw _ (List.mem_of_getElem? (i := 99) rfl)
theorem wd100 {a0 : Array Value} {Z : State} (hw : ∀ d ∈ tables_1, d.before a0 Z = true) : Jvm.Cond.before (Jvm.Cond.fieldLink "com/example/adaptive_mirror/adaptivemirror/net/InFlight" (57 : Nat) "com/example/adaptive_mirror/adaptivemirror/net/InFlight" "carried" "J") a0 Z = true := hw _ (List.mem_of_getElem? (i := 100) rfl)
theorem wd101 {a0 : Array Value} {Z : State} (hw : ∀ d ∈ tables_1, d.before a0 Z = true) : Jvm.Cond.before (Jvm.Cond.lays "com/example/adaptive_mirror/adaptivemirror/net/InFlight" "com/example/adaptive_mirror/adaptivemirror/net/InFlight" "carried" "J") a0 Z = true := hw _ (List.mem_of_getElem? (i := 101) rfl)
theorem wd102 {a0 : Array Value} {Z : State} (hw : ∀ d ∈ tables_1, d.before a0 Z = true) : Jvm.Cond.before (Jvm.Cond.methodLink "com/example/adaptive_mirror/adaptivemirror/net/InFlight" (60 : Nat) ({ cls := "java/lang/Math", name := "max", desc := "(JJ)J" } : Jvm.MethodName)) a0 Z = true := hw _ (List.mem_of_getElem? (i := 102) rfl)
theorem wd103 {a0 : Array Value} {Z : State} (hw : ∀ d ∈ tables_1, d.before a0 Z = true) : Jvm.Cond.before (Jvm.Cond.static ({ cls := "java/lang/Math", name := "max", desc := "(JJ)J" } : Jvm.MethodName)) a0 Z = true := hw _ (List.mem_of_getElem? (i := 103) rfl)
theorem wd104 {a0 : Array Value} {Z : State} (hw : ∀ d ∈ tables_1, d.before a0 Z = true) : Jvm.Cond.before (Jvm.Cond.initialized "java/lang/Math") a0 Z = true := hw _ (List.mem_of_getElem? (i := 104) rfl)
theorem wd105 {a0 : Array Value} {Z : State} (hw : ∀ d ∈ tables_1, d.before a0 Z = true) : Jvm.Cond.before (Jvm.Cond.code ({ cls := "java/lang/Math", name := "max", desc := "(JJ)J" } : Jvm.MethodName) jdk_29_method_66_code (4 : Nat) (Option.some Jvm.ClassFile.FieldType.long)) a0 Z = true := hw _ (List.mem_of_getElem? (i := 105) rfl)
theorem wd106 {a0 : Array Value} {Z : State} (hw : ∀ d ∈ tables_1, d.before a0 Z = true) : Jvm.Cond.before (Jvm.Cond.methodRef "com/example/adaptive_mirror/adaptivemirror/net/InFlight" (68 : Nat) ({ cls := "com/example/adaptive_mirror/adaptivemirror/net/InFlight$Frame", name := "<init>", desc := "(JJJJ)V" } : Jvm.MethodName)) a0 Z = true := hw _ (List.mem_of_getElem? (i := 106) rfl)
theorem wd107 {a0 : Array Value} {Z : State} (hw : ∀ d ∈ tables_1, d.before a0 Z = true) : Jvm.Cond.before (Jvm.Cond.instanceMethod ({ cls := "com/example/adaptive_mirror/adaptivemirror/net/InFlight$Frame", name := "<init>", desc := "(JJJJ)V" } : Jvm.MethodName)) a0 Z = true := hw _ (List.mem_of_getElem? (i := 107) rfl)
theorem wd108 {a0 : Array Value} {Z : State} (hw : ∀ d ∈ tables_1, d.before a0 Z = true) : Jvm.Cond.before (Jvm.Cond.code ({ cls := "com/example/adaptive_mirror/adaptivemirror/net/InFlight$Frame", name := "<init>", desc := "(JJJJ)V" } : Jvm.MethodName) prog_91_method_1_code (9 : Nat) (Option.none : Option Jvm.ClassFile.FieldType)) a0 Z = true := hw _ (List.mem_of_getElem? (i := 108) rfl)
theorem wd109 {a0 : Array Value} {Z : State} (hw : ∀ d ∈ tables_1, d.before a0 Z = true) : Jvm.Cond.before (Jvm.Cond.methodLink "com/example/adaptive_mirror/adaptivemirror/net/InFlight$Frame" (1 : Nat) ({ cls := "java/lang/Record", name := "<init>", desc := "()V" } : Jvm.MethodName)) a0 Z = true := hw _ (List.mem_of_getElem? (i := 109) rfl)
theorem wd110 {a0 : Array Value} {Z : State} (hw : ∀ d ∈ tables_1, d.before a0 Z = true) : Jvm.Cond.before (Jvm.Cond.fieldLink "com/example/adaptive_mirror/adaptivemirror/net/InFlight$Frame" (7 : Nat) "com/example/adaptive_mirror/adaptivemirror/net/InFlight$Frame" "end" "J") a0 Z = true := hw _ (List.mem_of_getElem? (i := 110) rfl)
theorem wd111 {a0 : Array Value} {Z : State} (hw : ∀ d ∈ tables_1, d.before a0 Z = true) : Jvm.Cond.before (Jvm.Cond.laysFinal "com/example/adaptive_mirror/adaptivemirror/net/InFlight$Frame" "com/example/adaptive_mirror/adaptivemirror/net/InFlight$Frame" "end" "J") a0 Z = true := hw _ (List.mem_of_getElem? (i := 111) rfl)
theorem wd112 {a0 : Array Value} {Z : State} (hw : ∀ d ∈ tables_1, d.before a0 Z = true) : Jvm.Cond.before (Jvm.Cond.fieldLink "com/example/adaptive_mirror/adaptivemirror/net/InFlight$Frame" (13 : Nat) "com/example/adaptive_mirror/adaptivemirror/net/InFlight$Frame" "began" "J") a0 Z = true := hw _ (List.mem_of_getElem? (i := 112) rfl)
theorem wd113 {a0 : Array Value} {Z : State} (hw : ∀ d ∈ tables_1, d.before a0 Z = true) : Jvm.Cond.before (Jvm.Cond.laysFinal "com/example/adaptive_mirror/adaptivemirror/net/InFlight$Frame" "com/example/adaptive_mirror/adaptivemirror/net/InFlight$Frame" "began" "J") a0 Z = true := hw _ (List.mem_of_getElem? (i := 113) rfl)
theorem wd114 {a0 : Array Value} {Z : State} (hw : ∀ d ∈ tables_1, d.before a0 Z = true) : Jvm.Cond.before (Jvm.Cond.fieldLink "com/example/adaptive_mirror/adaptivemirror/net/InFlight$Frame" (16 : Nat) "com/example/adaptive_mirror/adaptivemirror/net/InFlight$Frame" "acknowledgedThen" "J") a0 Z = true := hw _ (List.mem_of_getElem? (i := 114) rfl)
theorem wd115 {a0 : Array Value} {Z : State} (hw : ∀ d ∈ tables_1, d.before a0 Z = true) : Jvm.Cond.before (Jvm.Cond.laysFinal "com/example/adaptive_mirror/adaptivemirror/net/InFlight$Frame" "com/example/adaptive_mirror/adaptivemirror/net/InFlight$Frame" "acknowledgedThen" "J") a0 Z = true := hw _ (List.mem_of_getElem? (i := 115) rfl)
theorem wd116 {a0 : Array Value} {Z : State} (hw : ∀ d ∈ tables_1, d.before a0 Z = true) : Jvm.Cond.before (Jvm.Cond.fieldLink "com/example/adaptive_mirror/adaptivemirror/net/InFlight$Frame" (19 : Nat) "com/example/adaptive_mirror/adaptivemirror/net/InFlight$Frame" "limitThen" "J") a0 Z = true := hw _ (List.mem_of_getElem? (i := 116) rfl)
theorem wd117 {a0 : Array Value} {Z : State} (hw : ∀ d ∈ tables_1, d.before a0 Z = true) : Jvm.Cond.before (Jvm.Cond.laysFinal "com/example/adaptive_mirror/adaptivemirror/net/InFlight$Frame" "com/example/adaptive_mirror/adaptivemirror/net/InFlight$Frame" "limitThen" "J") a0 Z = true := hw _ (List.mem_of_getElem? (i := 117) rfl)
theorem wd118 {a0 : Array Value} {Z : State} (hw : ∀ d ∈ tables_1, d.before a0 Z = true) : Jvm.Cond.before (Jvm.Cond.castable "com/example/adaptive_mirror/adaptivemirror/net/InFlight$Frame" "java/lang/Object") a0 Z = true := hw _ (List.mem_of_getElem? (i := 118) rfl)
theorem wd119 {a0 : Array Value} {Z : State} (hw : ∀ d ∈ tables_1, d.before a0 Z = true) : Jvm.Cond.before (Jvm.Cond.methodLink "com/example/adaptive_mirror/adaptivemirror/net/InFlightIsEmptyPinLaw" (26 : Nat) ({ cls := "com/example/adaptive_mirror/adaptivemirror/net/InFlight", name := "acknowledged", desc := "(JJ)I" } : Jvm.MethodName)) a0 Z = true := hw _ (List.mem_of_getElem? (i := 119) rfl)
theorem wd120 {a0 : Array Value} {Z : State} (hw : ∀ d ∈ tables_1, d.before a0 Z = true) : Jvm.Cond.before (Jvm.Cond.declares ({ cls := "com/example/adaptive_mirror/adaptivemirror/net/InFlight", name := "acknowledged", desc := "(JJ)I" } : Jvm.MethodName)) a0 Z = true := hw _ (List.mem_of_getElem? (i := 120) rfl)
theorem wd121 {a0 : Array Value} {Z : State} (hw : ∀ d ∈ tables_1, d.before a0 Z = true) : Jvm.Cond.before (Jvm.Cond.instanceMethod ({ cls := "com/example/adaptive_mirror/adaptivemirror/net/InFlight", name := "acknowledged", desc := "(JJ)I" } : Jvm.MethodName)) a0 Z = true := hw _ (List.mem_of_getElem? (i := 121) rfl)
theorem wd122 {a0 : Array Value} {Z : State} (hw : ∀ d ∈ tables_1, d.before a0 Z = true) : Jvm.Cond.before (Jvm.Cond.selects "com/example/adaptive_mirror/adaptivemirror/net/InFlight" ({ cls := "com/example/adaptive_mirror/adaptivemirror/net/InFlight", name := "acknowledged", desc := "(JJ)I" } : Jvm.MethodName) ({ cls := "com/example/adaptive_mirror/adaptivemirror/net/InFlight", name := "acknowledged", desc := "(JJ)I" } : Jvm.MethodName)) a0 Z = true := hw _ (List.mem_of_getElem? (i := 122) rfl)
theorem wd123 {a0 : Array Value} {Z : State} (hw : ∀ d ∈ tables_1, d.before a0 Z = true) : Jvm.Cond.before (Jvm.Cond.code ({ cls := "com/example/adaptive_mirror/adaptivemirror/net/InFlight", name := "acknowledged", desc := "(JJ)I" } : Jvm.MethodName) prog_89_method_8_code (6 : Nat) (Option.some Jvm.ClassFile.FieldType.int)) a0 Z = true := hw _ (List.mem_of_getElem? (i := 123) rfl)
theorem wd124 {a0 : Array Value} {Z : State} (hw : ∀ d ∈ tables_1, d.before a0 Z = true) : Jvm.Cond.before (Jvm.Cond.methodLink "com/example/adaptive_mirror/adaptivemirror/net/InFlight" (80 : Nat) ({ cls := "java/util/Queue", name := "isEmpty", desc := "()Z" } : Jvm.MethodName)) a0 Z = true := hw _ (List.mem_of_getElem? (i := 124) rfl)
theorem wd125 {a0 : Array Value} {Z : State} (hw : ∀ d ∈ tables_1, d.before a0 Z = true) : Jvm.Cond.before (Jvm.Cond.declares ({ cls := "java/util/Collection", name := "isEmpty", desc := "()Z" } : Jvm.MethodName)) a0 Z = true := hw _ (List.mem_of_getElem? (i := 125) rfl)
theorem wd126 {a0 : Array Value} {Z : State} (hw : ∀ d ∈ tables_1, d.before a0 Z = true) : Jvm.Cond.before (Jvm.Cond.interfaceMethod "java/util/Queue" "java/util/Collection" "isEmpty" "()Z") a0 Z = true := hw _ (List.mem_of_getElem? (i := 126) rfl)
theorem wd127 {a0 : Array Value} {Z : State} (hw : ∀ d ∈ tables_1, d.before a0 Z = true) : Jvm.Cond.before (Jvm.Cond.selects "java/util/ArrayDeque" ({ cls := "java/util/Queue", name := "isEmpty", desc := "()Z" } : Jvm.MethodName) ({ cls := "java/util/ArrayDeque", name := "isEmpty", desc := "()Z" } : Jvm.MethodName)) a0 Z = true := hw _ (List.mem_of_getElem? (i := 127) rfl)
theorem wd128 {a0 : Array Value} {Z : State} (hw : ∀ d ∈ tables_1, d.before a0 Z = true) : Jvm.Cond.before (Jvm.Cond.instanceMethod ({ cls := "java/util/ArrayDeque", name := "isEmpty", desc := "()Z" } : Jvm.MethodName)) a0 Z = true := hw _ (List.mem_of_getElem? (i := 128) rfl)
theorem wd129 {a0 : Array Value} {Z : State} (hw : ∀ d ∈ tables_1, d.before a0 Z = true) : Jvm.Cond.before (Jvm.Cond.publicMethod ({ cls := "java/util/ArrayDeque", name := "isEmpty", desc := "()Z" } : Jvm.MethodName)) a0 Z = true := hw _ (List.mem_of_getElem? (i := 129) rfl)
theorem wd130 {a0 : Array Value} {Z : State} (hw : ∀ d ∈ tables_1, d.before a0 Z = true) : Jvm.Cond.before (Jvm.Cond.unhidden "java/util/ArrayDeque" "isEmpty" "()Z") a0 Z = true := hw _ (List.mem_of_getElem? (i := 130) rfl)
theorem wd131 {a0 : Array Value} {Z : State} (hw : ∀ d ∈ tables_1, d.before a0 Z = true) : Jvm.Cond.before (Jvm.Cond.code ({ cls := "java/util/ArrayDeque", name := "isEmpty", desc := "()Z" } : Jvm.MethodName) jdk_21_method_38_code (1 : Nat) (Option.some Jvm.ClassFile.FieldType.boolean)) a0 Z = true := hw _ (List.mem_of_getElem? (i := 131) rfl)
theorem wd132 {a0 : Array Value} {Z : State} (hw : ∀ d ∈ tables_1, d.before a0 Z = true) : Jvm.Cond.before (Jvm.Cond.methodLink "com/example/adaptive_mirror/adaptivemirror/net/InFlight" (84 : Nat) ({ cls := "java/util/Queue", name := "peek", desc := "()Ljava/lang/Object;" } : Jvm.MethodName)) a0 Z = true := hw _ (List.mem_of_getElem? (i := 132) rfl)
theorem wd133 {a0 : Array Value} {Z : State} (hw : ∀ d ∈ tables_1, d.before a0 Z = true) : Jvm.Cond.before (Jvm.Cond.declares ({ cls := "java/util/Queue", name := "peek", desc := "()Ljava/lang/Object;" } : Jvm.MethodName)) a0 Z = true := hw _ (List.mem_of_getElem? (i := 133) rfl)
theorem wd134 {a0 : Array Value} {Z : State} (hw : ∀ d ∈ tables_1, d.before a0 Z = true) : Jvm.Cond.before (Jvm.Cond.interfaceMethod "java/util/Queue" "java/util/Queue" "peek" "()Ljava/lang/Object;") a0 Z = true := hw _ (List.mem_of_getElem? (i := 134) rfl)
theorem wd135 {a0 : Array Value} {Z : State} (hw : ∀ d ∈ tables_1, d.before a0 Z = true) : Jvm.Cond.before (Jvm.Cond.selects "java/util/ArrayDeque" ({ cls := "java/util/Queue", name := "peek", desc := "()Ljava/lang/Object;" } : Jvm.MethodName) ({ cls := "java/util/ArrayDeque", name := "peek", desc := "()Ljava/lang/Object;" } : Jvm.MethodName)) a0 Z = true := hw _ (List.mem_of_getElem? (i := 135) rfl)
theorem wd136 {a0 : Array Value} {Z : State} (hw : ∀ d ∈ tables_1, d.before a0 Z = true) : Jvm.Cond.before (Jvm.Cond.instanceMethod ({ cls := "java/util/ArrayDeque", name := "peek", desc := "()Ljava/lang/Object;" } : Jvm.MethodName)) a0 Z = true := hw _ (List.mem_of_getElem? (i := 136) rfl)
theorem wd137 {a0 : Array Value} {Z : State} (hw : ∀ d ∈ tables_1, d.before a0 Z = true) : Jvm.Cond.before (Jvm.Cond.publicMethod ({ cls := "java/util/ArrayDeque", name := "peek", desc := "()Ljava/lang/Object;" } : Jvm.MethodName)) a0 Z = true := hw _ (List.mem_of_getElem? (i := 137) rfl)
theorem wd138 {a0 : Array Value} {Z : State} (hw : ∀ d ∈ tables_1, d.before a0 Z = true) : Jvm.Cond.before (Jvm.Cond.unhidden "java/util/ArrayDeque" "peek" "()Ljava/lang/Object;") a0 Z = true := hw _ (List.mem_of_getElem? (i := 138) rfl)
theorem wd139 {a0 : Array Value} {Z : State} (hw : ∀ d ∈ tables_1, d.before a0 Z = true) : Jvm.Cond.before (Jvm.Cond.code ({ cls := "java/util/ArrayDeque", name := "peek", desc := "()Ljava/lang/Object;" } : Jvm.MethodName) jdk_21_method_33_code (1 : Nat) (Option.some (Jvm.ClassFile.FieldType.object "java/lang/Object"))) a0 Z = true := hw _ (List.mem_of_getElem? (i := 139) rfl)
theorem wd140 {a0 : Array Value} {Z : State} (hw : ∀ d ∈ tables_1, d.before a0 Z = true) : Jvm.Cond.before (Jvm.Cond.methodLink "java/util/ArrayDeque" (124 : Nat) ({ cls := "java/util/ArrayDeque", name := "peekFirst", desc := "()Ljava/lang/Object;" } : Jvm.MethodName)) a0 Z = true := hw _ (List.mem_of_getElem? (i := 140) rfl)
theorem wd141 {a0 : Array Value} {Z : State} (hw : ∀ d ∈ tables_1, d.before a0 Z = true) : Jvm.Cond.before (Jvm.Cond.declares ({ cls := "java/util/ArrayDeque", name := "peekFirst", desc := "()Ljava/lang/Object;" } : Jvm.MethodName)) a0 Z = true := hw _ (List.mem_of_getElem? (i := 141) rfl)
theorem wd142 {a0 : Array Value} {Z : State} (hw : ∀ d ∈ tables_1, d.before a0 Z = true) : Jvm.Cond.before (Jvm.Cond.instanceMethod ({ cls := "java/util/ArrayDeque", name := "peekFirst", desc := "()Ljava/lang/Object;" } : Jvm.MethodName)) a0 Z = true := hw _ (List.mem_of_getElem? (i := 142) rfl)
theorem wd143 {a0 : Array Value} {Z : State} (hw : ∀ d ∈ tables_1, d.before a0 Z = true) : Jvm.Cond.before (Jvm.Cond.selects "java/util/ArrayDeque" ({ cls := "java/util/ArrayDeque", name := "peekFirst", desc := "()Ljava/lang/Object;" } : Jvm.MethodName) ({ cls := "java/util/ArrayDeque", name := "peekFirst", desc := "()Ljava/lang/Object;" } : Jvm.MethodName)) a0 Z = true := hw _ (List.mem_of_getElem? (i := 143) rfl)
theorem wd144 {a0 : Array Value} {Z : State} (hw : ∀ d ∈ tables_1, d.before a0 Z = true) : Jvm.Cond.before (Jvm.Cond.code ({ cls := "java/util/ArrayDeque", name := "peekFirst", desc := "()Ljava/lang/Object;" } : Jvm.MethodName) jdk_21_method_24_code (1 : Nat) (Option.some (Jvm.ClassFile.FieldType.object "java/lang/Object"))) a0 Z = true := hw _ (List.mem_of_getElem? (i := 144) rfl)
theorem wd145 {a0 : Array Value} {Z : State} (hw : ∀ d ∈ tables_1, d.before a0 Z = true) : Jvm.Cond.before (Jvm.Cond.methodLink "java/util/ArrayDeque" (103 : Nat) ({ cls := "java/util/ArrayDeque", name := "elementAt", desc := "([Ljava/lang/Object;I)Ljava/lang/Object;" } : Jvm.MethodName)) a0 Z = true := hw _ (List.mem_of_getElem? (i := 145) rfl)
theorem wd146 {a0 : Array Value} {Z : State} (hw : ∀ d ∈ tables_1, d.before a0 Z = true) : Jvm.Cond.before (Jvm.Cond.static ({ cls := "java/util/ArrayDeque", name := "elementAt", desc := "([Ljava/lang/Object;I)Ljava/lang/Object;" } : Jvm.MethodName)) a0 Z = true := hw _ (List.mem_of_getElem? (i := 146) rfl)
theorem wd147 {a0 : Array Value} {Z : State} (hw : ∀ d ∈ tables_1, d.before a0 Z = true) : Jvm.Cond.before (Jvm.Cond.code ({ cls := "java/util/ArrayDeque", name := "elementAt", desc := "([Ljava/lang/Object;I)Ljava/lang/Object;" } : Jvm.MethodName) jdk_21_method_10_code (2 : Nat) (Option.some (Jvm.ClassFile.FieldType.object "java/lang/Object"))) a0 Z = true := hw _ (List.mem_of_getElem? (i := 147) rfl)
theorem wd149 {a0 : Array Value} {Z : State} (hw : ∀ d ∈ tables_1, d.before a0 Z = true) : Jvm.Cond.before (Jvm.Cond.methodLink "com/example/adaptive_mirror/adaptivemirror/net/InFlight" (88 : Nat) ({ cls := "com/example/adaptive_mirror/adaptivemirror/net/InFlight$Flush", name := "end", desc := "()J" } : Jvm.MethodName)) a0 Z = true := hw _ (List.mem_of_getElem? (i := 149) rfl)
theorem wd150 {a0 : Array Value} {Z : State} (hw : ∀ d ∈ tables_1, d.before a0 Z = true) : Jvm.Cond.before (Jvm.Cond.declares ({ cls := "com/example/adaptive_mirror/adaptivemirror/net/InFlight$Flush", name := "end", desc := "()J" } : Jvm.MethodName)) a0 Z = true := hw _ (List.mem_of_getElem? (i := 150) rfl)
theorem wd151 {a0 : Array Value} {Z : State} (hw : ∀ d ∈ tables_1, d.before a0 Z = true) : Jvm.Cond.before (Jvm.Cond.instanceMethod ({ cls := "com/example/adaptive_mirror/adaptivemirror/net/InFlight$Flush", name := "end", desc := "()J" } : Jvm.MethodName)) a0 Z = true := hw _ (List.mem_of_getElem? (i := 151) rfl)
theorem wd152 {a0 : Array Value} {Z : State} (hw : ∀ d ∈ tables_1, d.before a0 Z = true) : Jvm.Cond.before (Jvm.Cond.selects "com/example/adaptive_mirror/adaptivemirror/net/InFlight$Flush" ({ cls := "com/example/adaptive_mirror/adaptivemirror/net/InFlight$Flush", name := "end", desc := "()J" } : Jvm.MethodName) ({ cls := "com/example/adaptive_mirror/adaptivemirror/net/InFlight$Flush", name := "end", desc := "()J" } : Jvm.MethodName)) a0 Z = true := hw _ (List.mem_of_getElem? (i := 152) rfl)
theorem wd153 {a0 : Array Value} {Z : State} (hw : ∀ d ∈ tables_1, d.before a0 Z = true) : Jvm.Cond.before (Jvm.Cond.code ({ cls := "com/example/adaptive_mirror/adaptivemirror/net/InFlight$Flush", name := "end", desc := "()J" } : Jvm.MethodName) prog_90_method_5_code (1 : Nat) (Option.some Jvm.ClassFile.FieldType.long)) a0 Z = true := hw _ (List.mem_of_getElem? (i := 153) rfl)
theorem wd155 {a0 : Array Value} {Z : State} (hw : ∀ d ∈ tables_1, d.before a0 Z = true) : Jvm.Cond.before (Jvm.Cond.methodLink "com/example/adaptive_mirror/adaptivemirror/net/InFlight" (100 : Nat) ({ cls := "com/example/adaptive_mirror/adaptivemirror/net/InFlight$Frame", name := "end", desc := "()J" } : Jvm.MethodName)) a0 Z = true := hw _ (List.mem_of_getElem? (i := 155) rfl)
theorem wd156 {a0 : Array Value} {Z : State} (hw : ∀ d ∈ tables_1, d.before a0 Z = true) : Jvm.Cond.before (Jvm.Cond.declares ({ cls := "com/example/adaptive_mirror/adaptivemirror/net/InFlight$Frame", name := "end", desc := "()J" } : Jvm.MethodName)) a0 Z = true := hw _ (List.mem_of_getElem? (i := 156) rfl)
theorem wd157 {a0 : Array Value} {Z : State} (hw : ∀ d ∈ tables_1, d.before a0 Z = true) : Jvm.Cond.before (Jvm.Cond.instanceMethod ({ cls := "com/example/adaptive_mirror/adaptivemirror/net/InFlight$Frame", name := "end", desc := "()J" } : Jvm.MethodName)) a0 Z = true := hw _ (List.mem_of_getElem? (i := 157) rfl)
theorem wd158 {a0 : Array Value} {Z : State} (hw : ∀ d ∈ tables_1, d.before a0 Z = true) : Jvm.Cond.before (Jvm.Cond.selects "com/example/adaptive_mirror/adaptivemirror/net/InFlight$Frame" ({ cls := "com/example/adaptive_mirror/adaptivemirror/net/InFlight$Frame", name := "end", desc := "()J" } : Jvm.MethodName) ({ cls := "com/example/adaptive_mirror/adaptivemirror/net/InFlight$Frame", name := "end", desc := "()J" } : Jvm.MethodName)) a0 Z = true := hw _ (List.mem_of_getElem? (i := 158) rfl)
theorem wd159 {a0 : Array Value} {Z : State} (hw : ∀ d ∈ tables_1, d.before a0 Z = true) : Jvm.Cond.before (Jvm.Cond.code ({ cls := "com/example/adaptive_mirror/adaptivemirror/net/InFlight$Frame", name := "end", desc := "()J" } : Jvm.MethodName) prog_91_method_5_code (1 : Nat) (Option.some Jvm.ClassFile.FieldType.long)) a0 Z = true := hw _ (List.mem_of_getElem? (i := 159) rfl)
theorem wd160 {a0 : Array Value} {Z : State} (hw : ∀ d ∈ tables_1, d.before a0 Z = true) : Jvm.Cond.before (Jvm.Cond.methodLink "java/util/ArrayDeque" (71 : Nat) ({ cls := "java/util/ArrayDeque", name := "grow", desc := "(I)V" } : Jvm.MethodName)) a0 Z = true := hw _ (List.mem_of_getElem? (i := 160) rfl)
theorem wd161 {a0 : Array Value} {Z : State} (hw : ∀ d ∈ tables_1, d.before a0 Z = true) : Jvm.Cond.before (Jvm.Cond.instanceMethod ({ cls := "java/util/ArrayDeque", name := "grow", desc := "(I)V" } : Jvm.MethodName)) a0 Z = true := hw _ (List.mem_of_getElem? (i := 161) rfl)
theorem wd162 {a0 : Array Value} {Z : State} (hw : ∀ d ∈ tables_1, d.before a0 Z = true) : Jvm.Cond.before (Jvm.Cond.privateMethod ({ cls := "java/util/ArrayDeque", name := "grow", desc := "(I)V" } : Jvm.MethodName)) a0 Z = true := hw _ (List.mem_of_getElem? (i := 162) rfl)
theorem wd164 {a0 : Array Value} {Z : State} (hw : ∀ d ∈ tables_1, d.before a0 Z = true) : Jvm.Cond.before (Jvm.Cond.code ({ cls := "java/util/ArrayDeque", name := "grow", desc := "(I)V" } : Jvm.MethodName) jdk_21_method_1_code (9 : Nat) (Option.none : Option Jvm.ClassFile.FieldType)) a0 Z = true := hw _ (List.mem_of_getElem? (i := 164) rfl)
theorem wd165 {a0 : Array Value} {Z : State} (hw : ∀ d ∈ tables_1, d.before a0 Z = true) : Jvm.Cond.before (Jvm.Cond.constant "java/util/ArrayDeque" (9 : Nat) (2147483639 : Int32)) a0 Z = true := hw _ (List.mem_of_getElem? (i := 165) rfl)
theorem wd166 {a0 : Array Value} {Z : State} (hw : ∀ d ∈ tables_1, d.before a0 Z = true) : Jvm.Cond.before (Jvm.Cond.methodLink "java/util/ArrayDeque" (14 : Nat) ({ cls := "java/util/Arrays", name := "copyOf", desc := "([Ljava/lang/Object;I)[Ljava/lang/Object;" } : Jvm.MethodName)) a0 Z = true := hw _ (List.mem_of_getElem? (i := 166) rfl)
theorem wd167 {a0 : Array Value} {Z : State} (hw : ∀ d ∈ tables_1, d.before a0 Z = true) : Jvm.Cond.before (Jvm.Cond.static ({ cls := "java/util/Arrays", name := "copyOf", desc := "([Ljava/lang/Object;I)[Ljava/lang/Object;" } : Jvm.MethodName)) a0 Z = true := hw _ (List.mem_of_getElem? (i := 167) rfl)
theorem wd168 {a0 : Array Value} {Z : State} (hw : ∀ d ∈ tables_1, d.before a0 Z = true) : Jvm.Cond.before (Jvm.Cond.initialized "java/util/Arrays") a0 Z = true := hw _ (List.mem_of_getElem? (i := 168) rfl)
theorem wd169 {a0 : Array Value} {Z : State} (hw : ∀ d ∈ tables_1, d.before a0 Z = true) : Jvm.Cond.before (Jvm.Cond.code ({ cls := "java/util/Arrays", name := "copyOf", desc := "([Ljava/lang/Object;I)[Ljava/lang/Object;" } : Jvm.MethodName) jdk_65_method_119_code (2 : Nat) (Option.some (Jvm.ClassFile.FieldType.array (Jvm.ClassFile.FieldType.object "java/lang/Object")))) a0 Z = true := hw _ (List.mem_of_getElem? (i := 169) rfl)
theorem wd170 {a0 : Array Value} {Z : State} (hw : ∀ d ∈ tables_1, d.before a0 Z = true) : Jvm.Cond.before (Jvm.Cond.methodLink "java/util/Arrays" (86 : Nat) ({ cls := "java/lang/Object", name := "getClass", desc := "()Ljava/lang/Class;" } : Jvm.MethodName)) a0 Z = true := hw _ (List.mem_of_getElem? (i := 170) rfl)
theorem wd171 {a0 : Array Value} {Z : State} (hw : ∀ d ∈ tables_1, d.before a0 Z = true) : Jvm.Cond.before (Jvm.Cond.declares ({ cls := "java/lang/Object", name := "getClass", desc := "()Ljava/lang/Class;" } : Jvm.MethodName)) a0 Z = true := hw _ (List.mem_of_getElem? (i := 171) rfl)
theorem wd172 {a0 : Array Value} {Z : State} (hw : ∀ d ∈ tables_1, d.before a0 Z = true) : Jvm.Cond.before (Jvm.Cond.instanceMethod ({ cls := "java/lang/Object", name := "getClass", desc := "()Ljava/lang/Class;" } : Jvm.MethodName)) a0 Z = true := hw _ (List.mem_of_getElem? (i := 172) rfl)
theorem wd173 {a0 : Array Value} {Z : State} (hw : ∀ d ∈ tables_1, d.before a0 Z = true) : Jvm.Cond.before (Jvm.Cond.selects "[Ljava/lang/Object;" ({ cls := "java/lang/Object", name := "getClass", desc := "()Ljava/lang/Class;" } : Jvm.MethodName) ({ cls := "java/lang/Object", name := "getClass", desc := "()Ljava/lang/Class;" } : Jvm.MethodName)) a0 Z = true := hw _ (List.mem_of_getElem? (i := 173) rfl)
theorem wd174 {a0 : Array Value} {Z : State} (hw : ∀ d ∈ tables_1, d.before a0 Z = true) : Jvm.Cond.before (Jvm.Cond.native ({ cls := "java/lang/Object", name := "getClass", desc := "()Ljava/lang/Class;" } : Jvm.MethodName)) a0 Z = true := hw _ (List.mem_of_getElem? (i := 174) rfl)
theorem wd176 {a0 : Array Value} {Z : State} (hw : ∀ d ∈ tables_1, d.before a0 Z = true) : Jvm.Cond.before (Jvm.Cond.methodLink "java/util/Arrays" (300 : Nat) ({ cls := "java/util/Arrays", name := "copyOf", desc := "([Ljava/lang/Object;ILjava/lang/Class;)[Ljava/lang/Object;" } : Jvm.MethodName)) a0 Z = true := hw _ (List.mem_of_getElem? (i := 176) rfl)
theorem wd177 {a0 : Array Value} {Z : State} (hw : ∀ d ∈ tables_1, d.before a0 Z = true) : Jvm.Cond.before (Jvm.Cond.static ({ cls := "java/util/Arrays", name := "copyOf", desc := "([Ljava/lang/Object;ILjava/lang/Class;)[Ljava/lang/Object;" } : Jvm.MethodName)) a0 Z = true := hw _ (List.mem_of_getElem? (i := 177) rfl)
theorem wd178 {a0 : Array Value} {Z : State} (hw : ∀ d ∈ tables_1, d.before a0 Z = true) : Jvm.Cond.before (Jvm.Cond.code ({ cls := "java/util/Arrays", name := "copyOf", desc := "([Ljava/lang/Object;ILjava/lang/Class;)[Ljava/lang/Object;" } : Jvm.MethodName) jdk_65_method_120_code (4 : Nat) (Option.some (Jvm.ClassFile.FieldType.array (Jvm.ClassFile.FieldType.object "java/lang/Object")))) a0 Z = true := hw _ (List.mem_of_getElem? (i := 178) rfl)
theorem wd179 {a0 : Array Value} {Z : State} (hw : ∀ d ∈ tables_1, d.before a0 Z = true) : Jvm.Cond.before (Jvm.Cond.classLink "java/util/Arrays" (110 : Nat) "[Ljava/lang/Object;") a0 Z = true := hw _ (List.mem_of_getElem? (i := 179) rfl)
theorem wd180 {a0 : Array Value} {Z : State} (hw : ∀ d ∈ tables_1, d.before a0 Z = true) : Jvm.Cond.before (Jvm.Cond.classLink "java/util/Arrays" (2 : Nat) "java/lang/Object") a0 Z = true := hw _ (List.mem_of_getElem? (i := 180) rfl)
theorem wd181 {a0 : Array Value} {Z : State} (hw : ∀ d ∈ tables_1, d.before a0 Z = true) : Jvm.Cond.before (Jvm.Cond.methodLink "java/util/Arrays" (304 : Nat) ({ cls := "java/lang/Math", name := "min", desc := "(II)I" } : Jvm.MethodName)) a0 Z = true := hw _ (List.mem_of_getElem? (i := 181) rfl)
theorem wd182 {a0 : Array Value} {Z : State} (hw : ∀ d ∈ tables_1, d.before a0 Z = true) : Jvm.Cond.before (Jvm.Cond.static ({ cls := "java/lang/Math", name := "min", desc := "(II)I" } : Jvm.MethodName)) a0 Z = true := hw _ (List.mem_of_getElem? (i := 182) rfl)
theorem wd183 {a0 : Array Value} {Z : State} (hw : ∀ d ∈ tables_1, d.before a0 Z = true) : Jvm.Cond.before (Jvm.Cond.code ({ cls := "java/lang/Math", name := "min", desc := "(II)I" } : Jvm.MethodName) jdk_29_method_69_code (2 : Nat) (Option.some Jvm.ClassFile.FieldType.int)) a0 Z = true := hw _ (List.mem_of_getElem? (i := 183) rfl)
theorem wd184 {a0 : Array Value} {Z : State} (hw : ∀ d ∈ tables_1, d.before a0 Z = true) : Jvm.Cond.before (Jvm.Cond.methodLink "java/util/Arrays" (150 : Nat) ({ cls := "java/lang/System", name := "arraycopy", desc := "(Ljava/lang/Object;ILjava/lang/Object;II)V" } : Jvm.MethodName)) a0 Z = true := hw _ (List.mem_of_getElem? (i := 184) rfl)
theorem wd185 {a0 : Array Value} {Z : State} (hw : ∀ d ∈ tables_1, d.before a0 Z = true) : Jvm.Cond.before (Jvm.Cond.static ({ cls := "java/lang/System", name := "arraycopy", desc := "(Ljava/lang/Object;ILjava/lang/Object;II)V" } : Jvm.MethodName)) a0 Z = true := hw _ (List.mem_of_getElem? (i := 185) rfl)
theorem wd186 {a0 : Array Value} {Z : State} (hw : ∀ d ∈ tables_1, d.before a0 Z = true) : Jvm.Cond.before (Jvm.Cond.initialized "java/lang/System") a0 Z = true := hw _ (List.mem_of_getElem? (i := 186) rfl)
theorem wd187 {a0 : Array Value} {Z : State} (hw : ∀ d ∈ tables_1, d.before a0 Z = true) : Jvm.Cond.before (Jvm.Cond.native ({ cls := "java/lang/System", name := "arraycopy", desc := "(Ljava/lang/Object;ILjava/lang/Object;II)V" } : Jvm.MethodName)) a0 Z = true := hw _ (List.mem_of_getElem? (i := 187) rfl)
theorem wd188 {a0 : Array Value} {Z : State} (hw : ∀ d ∈ tables_1, d.before a0 Z = true) : Jvm.Cond.before (Jvm.Cond.methodLink "java/util/ArrayDeque" (27 : Nat) ({ cls := "java/lang/System", name := "arraycopy", desc := "(Ljava/lang/Object;ILjava/lang/Object;II)V" } : Jvm.MethodName)) a0 Z = true := hw _ (List.mem_of_getElem? (i := 188) rfl)
theorem wd189 {a0 : Array Value} {Z : State} (hw : ∀ d ∈ tables_1, d.before a0 Z = true) : Jvm.Cond.before (Jvm.Cond.methodLink "com/example/adaptive_mirror/adaptivemirror/net/InFlight" (91 : Nat) ({ cls := "java/util/Queue", name := "remove", desc := "()Ljava/lang/Object;" } : Jvm.MethodName)) a0 Z = true := hw _ (List.mem_of_getElem? (i := 189) rfl)
theorem wd190 {a0 : Array Value} {Z : State} (hw : ∀ d ∈ tables_1, d.before a0 Z = true) : Jvm.Cond.before (Jvm.Cond.declares ({ cls := "java/util/Queue", name := "remove", desc := "()Ljava/lang/Object;" } : Jvm.MethodName)) a0 Z = true := hw _ (List.mem_of_getElem? (i := 190) rfl)
theorem wd191 {a0 : Array Value} {Z : State} (hw : ∀ d ∈ tables_1, d.before a0 Z = true) : Jvm.Cond.before (Jvm.Cond.interfaceMethod "java/util/Queue" "java/util/Queue" "remove" "()Ljava/lang/Object;") a0 Z = true := hw _ (List.mem_of_getElem? (i := 191) rfl)
theorem wd192 {a0 : Array Value} {Z : State} (hw : ∀ d ∈ tables_1, d.before a0 Z = true) : Jvm.Cond.before (Jvm.Cond.selects "java/util/ArrayDeque" ({ cls := "java/util/Queue", name := "remove", desc := "()Ljava/lang/Object;" } : Jvm.MethodName) ({ cls := "java/util/ArrayDeque", name := "remove", desc := "()Ljava/lang/Object;" } : Jvm.MethodName)) a0 Z = true := hw _ (List.mem_of_getElem? (i := 192) rfl)
theorem wd193 {a0 : Array Value} {Z : State} (hw : ∀ d ∈ tables_1, d.before a0 Z = true) : Jvm.Cond.before (Jvm.Cond.instanceMethod ({ cls := "java/util/ArrayDeque", name := "remove", desc := "()Ljava/lang/Object;" } : Jvm.MethodName)) a0 Z = true := hw _ (List.mem_of_getElem? (i := 193) rfl)
theorem wd194 {a0 : Array Value} {Z : State} (hw : ∀ d ∈ tables_1, d.before a0 Z = true) : Jvm.Cond.before (Jvm.Cond.publicMethod ({ cls := "java/util/ArrayDeque", name := "remove", desc := "()Ljava/lang/Object;" } : Jvm.MethodName)) a0 Z = true := hw _ (List.mem_of_getElem? (i := 194) rfl)
theorem wd195 {a0 : Array Value} {Z : State} (hw : ∀ d ∈ tables_1, d.before a0 Z = true) : Jvm.Cond.before (Jvm.Cond.unhidden "java/util/ArrayDeque" "remove" "()Ljava/lang/Object;") a0 Z = true := hw _ (List.mem_of_getElem? (i := 195) rfl)
theorem wd196 {a0 : Array Value} {Z : State} (hw : ∀ d ∈ tables_1, d.before a0 Z = true) : Jvm.Cond.before (Jvm.Cond.code ({ cls := "java/util/ArrayDeque", name := "remove", desc := "()Ljava/lang/Object;" } : Jvm.MethodName) jdk_21_method_30_code (1 : Nat) (Option.some (Jvm.ClassFile.FieldType.object "java/lang/Object"))) a0 Z = true := hw _ (List.mem_of_getElem? (i := 196) rfl)
theorem wd197 {a0 : Array Value} {Z : State} (hw : ∀ d ∈ tables_1, d.before a0 Z = true) : Jvm.Cond.before (Jvm.Cond.methodLink "java/util/ArrayDeque" (118 : Nat) ({ cls := "java/util/ArrayDeque", name := "removeFirst", desc := "()Ljava/lang/Object;" } : Jvm.MethodName)) a0 Z = true := hw _ (List.mem_of_getElem? (i := 197) rfl)
theorem wd198 {a0 : Array Value} {Z : State} (hw : ∀ d ∈ tables_1, d.before a0 Z = true) : Jvm.Cond.before (Jvm.Cond.declares ({ cls := "java/util/ArrayDeque", name := "removeFirst", desc := "()Ljava/lang/Object;" } : Jvm.MethodName)) a0 Z = true := hw _ (List.mem_of_getElem? (i := 198) rfl)
theorem wd199 {a0 : Array Value} {Z : State} (hw : ∀ d ∈ tables_1, d.before a0 Z = true) : Jvm.Cond.before (Jvm.Cond.instanceMethod ({ cls := "java/util/ArrayDeque", name := "removeFirst", desc := "()Ljava/lang/Object;" } : Jvm.MethodName)) a0 Z = true := hw _ (List.mem_of_getElem? (i := 199) rfl)
theorem wd200 {a0 : Array Value} {Z : State} (hw : ∀ d ∈ tables_1, d.before a0 Z = true) : Jvm.Cond.before (Jvm.Cond.selects "java/util/ArrayDeque" ({ cls := "java/util/ArrayDeque", name := "removeFirst", desc := "()Ljava/lang/Object;" } : Jvm.MethodName) ({ cls := "java/util/ArrayDeque", name := "removeFirst", desc := "()Ljava/lang/Object;" } : Jvm.MethodName)) a0 Z = true := hw _ (List.mem_of_getElem? (i := 200) rfl)
theorem wd201 {a0 : Array Value} {Z : State} (hw : ∀ d ∈ tables_1, d.before a0 Z = true) : Jvm.Cond.before (Jvm.Cond.code ({ cls := "java/util/ArrayDeque", name := "removeFirst", desc := "()Ljava/lang/Object;" } : Jvm.MethodName) jdk_21_method_18_code (2 : Nat) (Option.some (Jvm.ClassFile.FieldType.object "java/lang/Object"))) a0 Z = true := hw _ (List.mem_of_getElem? (i := 201) rfl)
theorem wd202 {a0 : Array Value} {Z : State} (hw : ∀ d ∈ tables_1, d.before a0 Z = true) : Jvm.Cond.before (Jvm.Cond.methodLink "java/util/ArrayDeque" (93 : Nat) ({ cls := "java/util/ArrayDeque", name := "pollFirst", desc := "()Ljava/lang/Object;" } : Jvm.MethodName)) a0 Z = true := hw _ (List.mem_of_getElem? (i := 202) rfl)
theorem wd203 {a0 : Array Value} {Z : State} (hw : ∀ d ∈ tables_1, d.before a0 Z = true) : Jvm.Cond.before (Jvm.Cond.declares ({ cls := "java/util/ArrayDeque", name := "pollFirst", desc := "()Ljava/lang/Object;" } : Jvm.MethodName)) a0 Z = true := hw _ (List.mem_of_getElem? (i := 203) rfl)
theorem wd204 {a0 : Array Value} {Z : State} (hw : ∀ d ∈ tables_1, d.before a0 Z = true) : Jvm.Cond.before (Jvm.Cond.instanceMethod ({ cls := "java/util/ArrayDeque", name := "pollFirst", desc := "()Ljava/lang/Object;" } : Jvm.MethodName)) a0 Z = true := hw _ (List.mem_of_getElem? (i := 204) rfl)
theorem wd205 {a0 : Array Value} {Z : State} (hw : ∀ d ∈ tables_1, d.before a0 Z = true) : Jvm.Cond.before (Jvm.Cond.selects "java/util/ArrayDeque" ({ cls := "java/util/ArrayDeque", name := "pollFirst", desc := "()Ljava/lang/Object;" } : Jvm.MethodName) ({ cls := "java/util/ArrayDeque", name := "pollFirst", desc := "()Ljava/lang/Object;" } : Jvm.MethodName)) a0 Z = true := hw _ (List.mem_of_getElem? (i := 205) rfl)
theorem wd206 {a0 : Array Value} {Z : State} (hw : ∀ d ∈ tables_1, d.before a0 Z = true) : Jvm.Cond.before (Jvm.Cond.code ({ cls := "java/util/ArrayDeque", name := "pollFirst", desc := "()Ljava/lang/Object;" } : Jvm.MethodName) jdk_21_method_20_code (4 : Nat) (Option.some (Jvm.ClassFile.FieldType.object "java/lang/Object"))) a0 Z = true := hw _ (List.mem_of_getElem? (i := 206) rfl)
theorem wd207 {a0 : Array Value} {Z : State} (hw : ∀ d ∈ tables_1, d.before a0 Z = true) : Jvm.Cond.before (Jvm.Cond.methodLink "com/example/adaptive_mirror/adaptivemirror/net/InFlight" (94 : Nat) ({ cls := "com/example/adaptive_mirror/adaptivemirror/net/InFlight$Flush", name := "at", desc := "()J" } : Jvm.MethodName)) a0 Z = true := hw _ (List.mem_of_getElem? (i := 207) rfl)
theorem wd208 {a0 : Array Value} {Z : State} (hw : ∀ d ∈ tables_1, d.before a0 Z = true) : Jvm.Cond.before (Jvm.Cond.declares ({ cls := "com/example/adaptive_mirror/adaptivemirror/net/InFlight$Flush", name := "at", desc := "()J" } : Jvm.MethodName)) a0 Z = true := hw _ (List.mem_of_getElem? (i := 208) rfl)
theorem wd209 {a0 : Array Value} {Z : State} (hw : ∀ d ∈ tables_1, d.before a0 Z = true) : Jvm.Cond.before (Jvm.Cond.instanceMethod ({ cls := "com/example/adaptive_mirror/adaptivemirror/net/InFlight$Flush", name := "at", desc := "()J" } : Jvm.MethodName)) a0 Z = true := hw _ (List.mem_of_getElem? (i := 209) rfl)
theorem wd210 {a0 : Array Value} {Z : State} (hw : ∀ d ∈ tables_1, d.before a0 Z = true) : Jvm.Cond.before (Jvm.Cond.selects "com/example/adaptive_mirror/adaptivemirror/net/InFlight$Flush" ({ cls := "com/example/adaptive_mirror/adaptivemirror/net/InFlight$Flush", name := "at", desc := "()J" } : Jvm.MethodName) ({ cls := "com/example/adaptive_mirror/adaptivemirror/net/InFlight$Flush", name := "at", desc := "()J" } : Jvm.MethodName)) a0 Z = true := hw _ (List.mem_of_getElem? (i := 210) rfl)
theorem wd211 {a0 : Array Value} {Z : State} (hw : ∀ d ∈ tables_1, d.before a0 Z = true) : Jvm.Cond.before (Jvm.Cond.code ({ cls := "com/example/adaptive_mirror/adaptivemirror/net/InFlight$Flush", name := "at", desc := "()J" } : Jvm.MethodName) prog_90_method_6_code (1 : Nat) (Option.some Jvm.ClassFile.FieldType.long)) a0 Z = true := hw _ (List.mem_of_getElem? (i := 211) rfl)
theorem wd212 {a0 : Array Value} {Z : State} (hw : ∀ d ∈ tables_1, d.before a0 Z = true) : Jvm.Cond.before (Jvm.Cond.methodLink "com/example/adaptive_mirror/adaptivemirror/net/InFlight" (97 : Nat) ({ cls := "java/lang/Math", name := "min", desc := "(JJ)J" } : Jvm.MethodName)) a0 Z = true := hw _ (List.mem_of_getElem? (i := 212) rfl)
theorem wd213 {a0 : Array Value} {Z : State} (hw : ∀ d ∈ tables_1, d.before a0 Z = true) : Jvm.Cond.before (Jvm.Cond.static ({ cls := "java/lang/Math", name := "min", desc := "(JJ)J" } : Jvm.MethodName)) a0 Z = true := hw _ (List.mem_of_getElem? (i := 213) rfl)
theorem wd214 {a0 : Array Value} {Z : State} (hw : ∀ d ∈ tables_1, d.before a0 Z = true) : Jvm.Cond.before (Jvm.Cond.code ({ cls := "java/lang/Math", name := "min", desc := "(JJ)J" } : Jvm.MethodName) jdk_29_method_70_code (4 : Nat) (Option.some Jvm.ClassFile.FieldType.long)) a0 Z = true := hw _ (List.mem_of_getElem? (i := 214) rfl)
theorem wd215 {a0 : Array Value} {Z : State} (hw : ∀ d ∈ tables_1, d.before a0 Z = true) : Jvm.Cond.before (Jvm.Cond.methodLink "com/example/adaptive_mirror/adaptivemirror/net/InFlight" (101 : Nat) ({ cls := "com/example/adaptive_mirror/adaptivemirror/net/InFlight", name := "measure", desc := "(Lcom/example/adaptive_mirror/adaptivemirror/net/InFlight$Frame;J)V" } : Jvm.MethodName)) a0 Z = true := hw _ (List.mem_of_getElem? (i := 215) rfl)
theorem wd216 {a0 : Array Value} {Z : State} (hw : ∀ d ∈ tables_1, d.before a0 Z = true) : Jvm.Cond.before (Jvm.Cond.instanceMethod ({ cls := "com/example/adaptive_mirror/adaptivemirror/net/InFlight", name := "measure", desc := "(Lcom/example/adaptive_mirror/adaptivemirror/net/InFlight$Frame;J)V" } : Jvm.MethodName)) a0 Z = true := hw _ (List.mem_of_getElem? (i := 216) rfl)
theorem wd217 {a0 : Array Value} {Z : State} (hw : ∀ d ∈ tables_1, d.before a0 Z = true) : Jvm.Cond.before (Jvm.Cond.privateMethod ({ cls := "com/example/adaptive_mirror/adaptivemirror/net/InFlight", name := "measure", desc := "(Lcom/example/adaptive_mirror/adaptivemirror/net/InFlight$Frame;J)V" } : Jvm.MethodName)) a0 Z = true := hw _ (List.mem_of_getElem? (i := 217) rfl)
theorem wd218 {a0 : Array Value} {Z : State} (hw : ∀ d ∈ tables_1, d.before a0 Z = true) : Jvm.Cond.before (Jvm.Cond.code ({ cls := "com/example/adaptive_mirror/adaptivemirror/net/InFlight", name := "measure", desc := "(Lcom/example/adaptive_mirror/adaptivemirror/net/InFlight$Frame;J)V" } : Jvm.MethodName) prog_89_method_9_code (12 : Nat) (Option.none : Option Jvm.ClassFile.FieldType)) a0 Z = true := hw _ (List.mem_of_getElem? (i := 218) rfl)
theorem wd219 {a0 : Array Value} {Z : State} (hw : ∀ d ∈ tables_1, d.before a0 Z = true) : Jvm.Cond.before (Jvm.Cond.methodLink "com/example/adaptive_mirror/adaptivemirror/net/InFlight" (105 : Nat) ({ cls := "com/example/adaptive_mirror/adaptivemirror/net/InFlight$Frame", name := "began", desc := "()J" } : Jvm.MethodName)) a0 Z = true := hw _ (List.mem_of_getElem? (i := 219) rfl)
theorem wd220 {a0 : Array Value} {Z : State} (hw : ∀ d ∈ tables_1, d.before a0 Z = true) : Jvm.Cond.before (Jvm.Cond.declares ({ cls := "com/example/adaptive_mirror/adaptivemirror/net/InFlight$Frame", name := "began", desc := "()J" } : Jvm.MethodName)) a0 Z = true := hw _ (List.mem_of_getElem? (i := 220) rfl)
theorem wd221 {a0 : Array Value} {Z : State} (hw : ∀ d ∈ tables_1, d.before a0 Z = true) : Jvm.Cond.before (Jvm.Cond.instanceMethod ({ cls := "com/example/adaptive_mirror/adaptivemirror/net/InFlight$Frame", name := "began", desc := "()J" } : Jvm.MethodName)) a0 Z = true := hw _ (List.mem_of_getElem? (i := 221) rfl)
theorem wd222 {a0 : Array Value} {Z : State} (hw : ∀ d ∈ tables_1, d.before a0 Z = true) : Jvm.Cond.before (Jvm.Cond.selects "com/example/adaptive_mirror/adaptivemirror/net/InFlight$Frame" ({ cls := "com/example/adaptive_mirror/adaptivemirror/net/InFlight$Frame", name := "began", desc := "()J" } : Jvm.MethodName) ({ cls := "com/example/adaptive_mirror/adaptivemirror/net/InFlight$Frame", name := "began", desc := "()J" } : Jvm.MethodName)) a0 Z = true := hw _ (List.mem_of_getElem? (i := 222) rfl)
theorem wd223 {a0 : Array Value} {Z : State} (hw : ∀ d ∈ tables_1, d.before a0 Z = true) : Jvm.Cond.before (Jvm.Cond.code ({ cls := "com/example/adaptive_mirror/adaptivemirror/net/InFlight$Frame", name := "began", desc := "()J" } : Jvm.MethodName) prog_91_method_6_code (1 : Nat) (Option.some Jvm.ClassFile.FieldType.long)) a0 Z = true := hw _ (List.mem_of_getElem? (i := 223) rfl)
theorem wd224 {a0 : Array Value} {Z : State} (hw : ∀ d ∈ tables_1, d.before a0 Z = true) : Jvm.Cond.before (Jvm.Cond.methodLink "com/example/adaptive_mirror/adaptivemirror/net/InFlight" (108 : Nat) ({ cls := "com/example/adaptive_mirror/adaptivemirror/net/InFlight$Frame", name := "acknowledgedThen", desc := "()J" } : Jvm.MethodName)) a0 Z = true := hw _ (List.mem_of_getElem? (i := 224) rfl)
theorem wd225 {a0 : Array Value} {Z : State} (hw : ∀ d ∈ tables_1, d.before a0 Z = true) : Jvm.Cond.before (Jvm.Cond.declares ({ cls := "com/example/adaptive_mirror/adaptivemirror/net/InFlight$Frame", name := "acknowledgedThen", desc := "()J" } : Jvm.MethodName)) a0 Z = true := hw _ (List.mem_of_getElem? (i := 225) rfl)
theorem wd226 {a0 : Array Value} {Z : State} (hw : ∀ d ∈ tables_1, d.before a0 Z = true) : Jvm.Cond.before (Jvm.Cond.instanceMethod ({ cls := "com/example/adaptive_mirror/adaptivemirror/net/InFlight$Frame", name := "acknowledgedThen", desc := "()J" } : Jvm.MethodName)) a0 Z = true := hw _ (List.mem_of_getElem? (i := 226) rfl)
theorem wd227 {a0 : Array Value} {Z : State} (hw : ∀ d ∈ tables_1, d.before a0 Z = true) : Jvm.Cond.before (Jvm.Cond.selects "com/example/adaptive_mirror/adaptivemirror/net/InFlight$Frame" ({ cls := "com/example/adaptive_mirror/adaptivemirror/net/InFlight$Frame", name := "acknowledgedThen", desc := "()J" } : Jvm.MethodName) ({ cls := "com/example/adaptive_mirror/adaptivemirror/net/InFlight$Frame", name := "acknowledgedThen", desc := "()J" } : Jvm.MethodName)) a0 Z = true := hw _ (List.mem_of_getElem? (i := 227) rfl)
theorem wd228 {a0 : Array Value} {Z : State} (hw : ∀ d ∈ tables_1, d.before a0 Z = true) : Jvm.Cond.before (Jvm.Cond.code ({ cls := "com/example/adaptive_mirror/adaptivemirror/net/InFlight$Frame", name := "acknowledgedThen", desc := "()J" } : Jvm.MethodName) prog_91_method_7_code (1 : Nat) (Option.some Jvm.ClassFile.FieldType.long)) a0 Z = true := hw _ (List.mem_of_getElem? (i := 228) rfl)
theorem wd229 {a0 : Array Value} {Z : State} (hw : ∀ d ∈ tables_1, d.before a0 Z = true) : Jvm.Cond.before (Jvm.Cond.methodLink "com/example/adaptive_mirror/adaptivemirror/net/InFlight" (111 : Nat) ({ cls := "com/example/adaptive_mirror/adaptivemirror/net/InFlight$Frame", name := "limitThen", desc := "()J" } : Jvm.MethodName)) a0 Z = true := hw _ (List.mem_of_getElem? (i := 229) rfl)
theorem wd230 {a0 : Array Value} {Z : State} (hw : ∀ d ∈ tables_1, d.before a0 Z = true) : Jvm.Cond.before (Jvm.Cond.declares ({ cls := "com/example/adaptive_mirror/adaptivemirror/net/InFlight$Frame", name := "limitThen", desc := "()J" } : Jvm.MethodName)) a0 Z = true := hw _ (List.mem_of_getElem? (i := 230) rfl)
theorem wd231 {a0 : Array Value} {Z : State} (hw : ∀ d ∈ tables_1, d.before a0 Z = true) : Jvm.Cond.before (Jvm.Cond.instanceMethod ({ cls := "com/example/adaptive_mirror/adaptivemirror/net/InFlight$Frame", name := "limitThen", desc := "()J" } : Jvm.MethodName)) a0 Z = true := hw _ (List.mem_of_getElem? (i := 231) rfl)
theorem wd232 {a0 : Array Value} {Z : State} (hw : ∀ d ∈ tables_1, d.before a0 Z = true) : Jvm.Cond.before (Jvm.Cond.selects "com/example/adaptive_mirror/adaptivemirror/net/InFlight$Frame" ({ cls := "com/example/adaptive_mirror/adaptivemirror/net/InFlight$Frame", name := "limitThen", desc := "()J" } : Jvm.MethodName) ({ cls := "com/example/adaptive_mirror/adaptivemirror/net/InFlight$Frame", name := "limitThen", desc := "()J" } : Jvm.MethodName)) a0 Z = true := hw _ (List.mem_of_getElem? (i := 232) rfl)
theorem wd233 {a0 : Array Value} {Z : State} (hw : ∀ d ∈ tables_1, d.before a0 Z = true) : Jvm.Cond.before (Jvm.Cond.code ({ cls := "com/example/adaptive_mirror/adaptivemirror/net/InFlight$Frame", name := "limitThen", desc := "()J" } : Jvm.MethodName) prog_91_method_8_code (1 : Nat) (Option.some Jvm.ClassFile.FieldType.long)) a0 Z = true := hw _ (List.mem_of_getElem? (i := 233) rfl)
theorem wd234 {a0 : Array Value} {Z : State} (hw : ∀ d ∈ tables_1, d.before a0 Z = true) : Jvm.Cond.before (Jvm.Cond.fieldLink "com/example/adaptive_mirror/adaptivemirror/net/InFlight" (114 : Nat) "com/example/adaptive_mirror/adaptivemirror/net/InFlight" "carriedAt" "J") a0 Z = true := hw _ (List.mem_of_getElem? (i := 234) rfl)
theorem wd235 {a0 : Array Value} {Z : State} (hw : ∀ d ∈ tables_1, d.before a0 Z = true) : Jvm.Cond.before (Jvm.Cond.lays "com/example/adaptive_mirror/adaptivemirror/net/InFlight" "com/example/adaptive_mirror/adaptivemirror/net/InFlight" "carriedAt" "J") a0 Z = true := hw _ (List.mem_of_getElem? (i := 235) rfl)
theorem wd236 {a0 : Array Value} {Z : State} (hw : ∀ d ∈ tables_1, d.before a0 Z = true) : Jvm.Cond.before (Jvm.Cond.constantLong "com/example/adaptive_mirror/adaptivemirror/net/InFlight" (117 : Nat) (10 : Int64)) a0 Z = true := hw _ (List.mem_of_getElem? (i := 236) rfl)
theorem sn_ArrayDeque_head_elements {a0 : Array Value} {Z : State} (hw : ∀ d ∈ tables_1, d.before a0 Z = true) : Jvm.RoadKit.slotOf Z "java/util/ArrayDeque" "head" "I" ≠ Jvm.RoadKit.slotOf Z "java/util/ArrayDeque" "elements" "[Ljava/lang/Object;" := slot_ne (C := "java/util/ArrayDeque") (a0 := a0) (t := .int) (t' := (.array (.object "java/lang/Object"))) (Or.inl (wd74 hw)) (Or.inl (wd28 hw)) (by decide) (by decide) (by decide)
theorem sn_ArrayDeque_tail_elements {a0 : Array Value} {Z : State} (hw : ∀ d ∈ tables_1, d.before a0 Z = true) : Jvm.RoadKit.slotOf Z "java/util/ArrayDeque" "tail" "I" ≠ Jvm.RoadKit.slotOf Z "java/util/ArrayDeque" "elements" "[Ljava/lang/Object;" := slot_ne (C := "java/util/ArrayDeque") (a0 := a0) (t := .int) (t' := (.array (.object "java/lang/Object"))) (Or.inl (wd71 hw)) (Or.inl (wd28 hw)) (by decide) (by decide) (by decide)
theorem sn_ArrayDeque_elements_tail {a0 : Array Value} {Z : State} (hw : ∀ d ∈ tables_1, d.before a0 Z = true) : Jvm.RoadKit.slotOf Z "java/util/ArrayDeque" "elements" "[Ljava/lang/Object;" ≠ Jvm.RoadKit.slotOf Z "java/util/ArrayDeque" "tail" "I" := slot_ne (C := "java/util/ArrayDeque") (a0 := a0) (t := (.array (.object "java/lang/Object"))) (t' := .int) (Or.inl (wd28 hw)) (Or.inl (wd71 hw)) (by decide) (by decide) (by decide)
theorem sn_ArrayDeque_head_tail {a0 : Array Value} {Z : State} (hw : ∀ d ∈ tables_1, d.before a0 Z = true) : Jvm.RoadKit.slotOf Z "java/util/ArrayDeque" "head" "I" ≠ Jvm.RoadKit.slotOf Z "java/util/ArrayDeque" "tail" "I" := slot_ne (C := "java/util/ArrayDeque") (a0 := a0) (t := .int) (t' := .int) (Or.inl (wd74 hw)) (Or.inl (wd71 hw)) (by decide) (by decide) (by decide)
theorem sn_ArrayDeque_elements_head {a0 : Array Value} {Z : State} (hw : ∀ d ∈ tables_1, d.before a0 Z = true) : Jvm.RoadKit.slotOf Z "java/util/ArrayDeque" "elements" "[Ljava/lang/Object;" ≠ Jvm.RoadKit.slotOf Z "java/util/ArrayDeque" "head" "I" := slot_ne (C := "java/util/ArrayDeque") (a0 := a0) (t := (.array (.object "java/lang/Object"))) (t' := .int) (Or.inl (wd28 hw)) (Or.inl (wd74 hw)) (by decide) (by decide) (by decide)
theorem sn_ArrayDeque_tail_head {a0 : Array Value} {Z : State} (hw : ∀ d ∈ tables_1, d.before a0 Z = true) : Jvm.RoadKit.slotOf Z "java/util/ArrayDeque" "tail" "I" ≠ Jvm.RoadKit.slotOf Z "java/util/ArrayDeque" "head" "I" := slot_ne (C := "java/util/ArrayDeque") (a0 := a0) (t := .int) (t' := .int) (Or.inl (wd71 hw)) (Or.inl (wd74 hw)) (by decide) (by decide) (by decide)
theorem sn_InFlight_Flush_at_end {a0 : Array Value} {Z : State} (hw : ∀ d ∈ tables_1, d.before a0 Z = true) : Jvm.RoadKit.slotOf Z "com/example/adaptive_mirror/adaptivemirror/net/InFlight$Flush" "at" "J" ≠ Jvm.RoadKit.slotOf Z "com/example/adaptive_mirror/adaptivemirror/net/InFlight$Flush" "end" "J" := slot_ne (C := "com/example/adaptive_mirror/adaptivemirror/net/InFlight$Flush") (a0 := a0) (t := .long) (t' := .long) (Or.inr (wd55 hw)) (Or.inr (wd53 hw)) (by decide) (by decide) (by decide)
theorem sn_InFlight_Flush_end_at {a0 : Array Value} {Z : State} (hw : ∀ d ∈ tables_1, d.before a0 Z = true) : Jvm.RoadKit.slotOf Z "com/example/adaptive_mirror/adaptivemirror/net/InFlight$Flush" "end" "J" ≠ Jvm.RoadKit.slotOf Z "com/example/adaptive_mirror/adaptivemirror/net/InFlight$Flush" "at" "J" := slot_ne (C := "com/example/adaptive_mirror/adaptivemirror/net/InFlight$Flush") (a0 := a0) (t := .long) (t' := .long) (Or.inr (wd53 hw)) (Or.inr (wd55 hw)) (by decide) (by decide) (by decide)
theorem sn_InFlight_Frame_began_end {a0 : Array Value} {Z : State} (hw : ∀ d ∈ tables_1, d.before a0 Z = true) : Jvm.RoadKit.slotOf Z "com/example/adaptive_mirror/adaptivemirror/net/InFlight$Frame" "began" "J" ≠ Jvm.RoadKit.slotOf Z "com/example/adaptive_mirror/adaptivemirror/net/InFlight$Frame" "end" "J" := slot_ne (C := "com/example/adaptive_mirror/adaptivemirror/net/InFlight$Frame") (a0 := a0) (t := .long) (t' := .long) (Or.inr (wd113 hw)) (Or.inr (wd111 hw)) (by decide) (by decide) (by decide)
theorem sn_InFlight_Frame_acknowledgedThen_end {a0 : Array Value} {Z : State} (hw : ∀ d ∈ tables_1, d.before a0 Z = true) : Jvm.RoadKit.slotOf Z "com/example/adaptive_mirror/adaptivemirror/net/InFlight$Frame" "acknowledgedThen" "J" ≠ Jvm.RoadKit.slotOf Z "com/example/adaptive_mirror/adaptivemirror/net/InFlight$Frame" "end" "J" := slot_ne (C := "com/example/adaptive_mirror/adaptivemirror/net/InFlight$Frame") (a0 := a0) (t := .long) (t' := .long) (Or.inr (wd115 hw)) (Or.inr (wd111 hw)) (by decide) (by decide) (by decide)
theorem sn_InFlight_Frame_limitThen_end {a0 : Array Value} {Z : State} (hw : ∀ d ∈ tables_1, d.before a0 Z = true) : Jvm.RoadKit.slotOf Z "com/example/adaptive_mirror/adaptivemirror/net/InFlight$Frame" "limitThen" "J" ≠ Jvm.RoadKit.slotOf Z "com/example/adaptive_mirror/adaptivemirror/net/InFlight$Frame" "end" "J" := slot_ne (C := "com/example/adaptive_mirror/adaptivemirror/net/InFlight$Frame") (a0 := a0) (t := .long) (t' := .long) (Or.inr (wd117 hw)) (Or.inr (wd111 hw)) (by decide) (by decide) (by decide)
theorem sn_InFlight_Frame_end_began {a0 : Array Value} {Z : State} (hw : ∀ d ∈ tables_1, d.before a0 Z = true) : Jvm.RoadKit.slotOf Z "com/example/adaptive_mirror/adaptivemirror/net/InFlight$Frame" "end" "J" ≠ Jvm.RoadKit.slotOf Z "com/example/adaptive_mirror/adaptivemirror/net/InFlight$Frame" "began" "J" := slot_ne (C := "com/example/adaptive_mirror/adaptivemirror/net/InFlight$Frame") (a0 := a0) (t := .long) (t' := .long) (Or.inr (wd111 hw)) (Or.inr (wd113 hw)) (by decide) (by decide) (by decide)
theorem sn_InFlight_Frame_acknowledgedThen_began {a0 : Array Value} {Z : State} (hw : ∀ d ∈ tables_1, d.before a0 Z = true) : Jvm.RoadKit.slotOf Z "com/example/adaptive_mirror/adaptivemirror/net/InFlight$Frame" "acknowledgedThen" "J" ≠ Jvm.RoadKit.slotOf Z "com/example/adaptive_mirror/adaptivemirror/net/InFlight$Frame" "began" "J" := slot_ne (C := "com/example/adaptive_mirror/adaptivemirror/net/InFlight$Frame") (a0 := a0) (t := .long) (t' := .long) (Or.inr (wd115 hw)) (Or.inr (wd113 hw)) (by decide) (by decide) (by decide)
theorem sn_InFlight_Frame_limitThen_began {a0 : Array Value} {Z : State} (hw : ∀ d ∈ tables_1, d.before a0 Z = true) : Jvm.RoadKit.slotOf Z "com/example/adaptive_mirror/adaptivemirror/net/InFlight$Frame" "limitThen" "J" ≠ Jvm.RoadKit.slotOf Z "com/example/adaptive_mirror/adaptivemirror/net/InFlight$Frame" "began" "J" := slot_ne (C := "com/example/adaptive_mirror/adaptivemirror/net/InFlight$Frame") (a0 := a0) (t := .long) (t' := .long) (Or.inr (wd117 hw)) (Or.inr (wd113 hw)) (by decide) (by decide) (by decide)
theorem sn_InFlight_Frame_end_acknowledgedThen {a0 : Array Value} {Z : State} (hw : ∀ d ∈ tables_1, d.before a0 Z = true) : Jvm.RoadKit.slotOf Z "com/example/adaptive_mirror/adaptivemirror/net/InFlight$Frame" "end" "J" ≠ Jvm.RoadKit.slotOf Z "com/example/adaptive_mirror/adaptivemirror/net/InFlight$Frame" "acknowledgedThen" "J" := slot_ne (C := "com/example/adaptive_mirror/adaptivemirror/net/InFlight$Frame") (a0 := a0) (t := .long) (t' := .long) (Or.inr (wd111 hw)) (Or.inr (wd115 hw)) (by decide) (by decide) (by decide)
theorem sn_InFlight_Frame_began_acknowledgedThen {a0 : Array Value} {Z : State} (hw : ∀ d ∈ tables_1, d.before a0 Z = true) : Jvm.RoadKit.slotOf Z "com/example/adaptive_mirror/adaptivemirror/net/InFlight$Frame" "began" "J" ≠ Jvm.RoadKit.slotOf Z "com/example/adaptive_mirror/adaptivemirror/net/InFlight$Frame" "acknowledgedThen" "J" := slot_ne (C := "com/example/adaptive_mirror/adaptivemirror/net/InFlight$Frame") (a0 := a0) (t := .long) (t' := .long) (Or.inr (wd113 hw)) (Or.inr (wd115 hw)) (by decide) (by decide) (by decide)
theorem sn_InFlight_Frame_limitThen_acknowledgedThen {a0 : Array Value} {Z : State} (hw : ∀ d ∈ tables_1, d.before a0 Z = true) : Jvm.RoadKit.slotOf Z "com/example/adaptive_mirror/adaptivemirror/net/InFlight$Frame" "limitThen" "J" ≠ Jvm.RoadKit.slotOf Z "com/example/adaptive_mirror/adaptivemirror/net/InFlight$Frame" "acknowledgedThen" "J" := slot_ne (C := "com/example/adaptive_mirror/adaptivemirror/net/InFlight$Frame") (a0 := a0) (t := .long) (t' := .long) (Or.inr (wd117 hw)) (Or.inr (wd115 hw)) (by decide) (by decide) (by decide)
theorem sn_InFlight_Frame_end_limitThen {a0 : Array Value} {Z : State} (hw : ∀ d ∈ tables_1, d.before a0 Z = true) : Jvm.RoadKit.slotOf Z "com/example/adaptive_mirror/adaptivemirror/net/InFlight$Frame" "end" "J" ≠ Jvm.RoadKit.slotOf Z "com/example/adaptive_mirror/adaptivemirror/net/InFlight$Frame" "limitThen" "J" := slot_ne (C := "com/example/adaptive_mirror/adaptivemirror/net/InFlight$Frame") (a0 := a0) (t := .long) (t' := .long) (Or.inr (wd111 hw)) (Or.inr (wd117 hw)) (by decide) (by decide) (by decide)
theorem sn_InFlight_Frame_began_limitThen {a0 : Array Value} {Z : State} (hw : ∀ d ∈ tables_1, d.before a0 Z = true) : Jvm.RoadKit.slotOf Z "com/example/adaptive_mirror/adaptivemirror/net/InFlight$Frame" "began" "J" ≠ Jvm.RoadKit.slotOf Z "com/example/adaptive_mirror/adaptivemirror/net/InFlight$Frame" "limitThen" "J" := slot_ne (C := "com/example/adaptive_mirror/adaptivemirror/net/InFlight$Frame") (a0 := a0) (t := .long) (t' := .long) (Or.inr (wd113 hw)) (Or.inr (wd117 hw)) (by decide) (by decide) (by decide)
theorem sn_InFlight_Frame_acknowledgedThen_limitThen {a0 : Array Value} {Z : State} (hw : ∀ d ∈ tables_1, d.before a0 Z = true) : Jvm.RoadKit.slotOf Z "com/example/adaptive_mirror/adaptivemirror/net/InFlight$Frame" "acknowledgedThen" "J" ≠ Jvm.RoadKit.slotOf Z "com/example/adaptive_mirror/adaptivemirror/net/InFlight$Frame" "limitThen" "J" := slot_ne (C := "com/example/adaptive_mirror/adaptivemirror/net/InFlight$Frame") (a0 := a0) (t := .long) (t' := .long) (Or.inr (wd115 hw)) (Or.inr (wd117 hw)) (by decide) (by decide) (by decide)
theorem sn_InFlight_flushes_frames {a0 : Array Value} {Z : State} (hw : ∀ d ∈ tables_1, d.before a0 Z = true) : Jvm.RoadKit.slotOf Z "com/example/adaptive_mirror/adaptivemirror/net/InFlight" "flushes" "Ljava/util/Queue;" ≠ Jvm.RoadKit.slotOf Z "com/example/adaptive_mirror/adaptivemirror/net/InFlight" "frames" "Ljava/util/Queue;" := slot_ne (C := "com/example/adaptive_mirror/adaptivemirror/net/InFlight") (a0 := a0) (t := (.object "java/util/Queue")) (t' := (.object "java/util/Queue")) (Or.inr (wd32 hw)) (Or.inr (wd30 hw)) (by decide) (by decide) (by decide)
theorem sn_InFlight_roundTrip_frames {a0 : Array Value} {Z : State} (hw : ∀ d ∈ tables_1, d.before a0 Z = true) : Jvm.RoadKit.slotOf Z "com/example/adaptive_mirror/adaptivemirror/net/InFlight" "roundTrip" "J" ≠ Jvm.RoadKit.slotOf Z "com/example/adaptive_mirror/adaptivemirror/net/InFlight" "frames" "Ljava/util/Queue;" := slot_ne (C := "com/example/adaptive_mirror/adaptivemirror/net/InFlight") (a0 := a0) (t := .long) (t' := (.object "java/util/Queue")) (Or.inl (wd35 hw)) (Or.inr (wd30 hw)) (by decide) (by decide) (by decide)
theorem sn_InFlight_written_frames {a0 : Array Value} {Z : State} (hw : ∀ d ∈ tables_1, d.before a0 Z = true) : Jvm.RoadKit.slotOf Z "com/example/adaptive_mirror/adaptivemirror/net/InFlight" "written" "J" ≠ Jvm.RoadKit.slotOf Z "com/example/adaptive_mirror/adaptivemirror/net/InFlight" "frames" "Ljava/util/Queue;" := slot_ne (C := "com/example/adaptive_mirror/adaptivemirror/net/InFlight") (a0 := a0) (t := .long) (t' := (.object "java/util/Queue")) (Or.inl (wd37 hw)) (Or.inr (wd30 hw)) (by decide) (by decide) (by decide)
theorem sn_InFlight_flushed_frames {a0 : Array Value} {Z : State} (hw : ∀ d ∈ tables_1, d.before a0 Z = true) : Jvm.RoadKit.slotOf Z "com/example/adaptive_mirror/adaptivemirror/net/InFlight" "flushed" "J" ≠ Jvm.RoadKit.slotOf Z "com/example/adaptive_mirror/adaptivemirror/net/InFlight" "frames" "Ljava/util/Queue;" := slot_ne (C := "com/example/adaptive_mirror/adaptivemirror/net/InFlight") (a0 := a0) (t := .long) (t' := (.object "java/util/Queue")) (Or.inl (wd39 hw)) (Or.inr (wd30 hw)) (by decide) (by decide) (by decide)
theorem sn_InFlight_acknowledged_frames {a0 : Array Value} {Z : State} (hw : ∀ d ∈ tables_1, d.before a0 Z = true) : Jvm.RoadKit.slotOf Z "com/example/adaptive_mirror/adaptivemirror/net/InFlight" "acknowledged" "J" ≠ Jvm.RoadKit.slotOf Z "com/example/adaptive_mirror/adaptivemirror/net/InFlight" "frames" "Ljava/util/Queue;" := slot_ne (C := "com/example/adaptive_mirror/adaptivemirror/net/InFlight") (a0 := a0) (t := .long) (t' := (.object "java/util/Queue")) (Or.inl (wd84 hw)) (Or.inr (wd30 hw)) (by decide) (by decide) (by decide)
theorem sn_InFlight_carried_frames {a0 : Array Value} {Z : State} (hw : ∀ d ∈ tables_1, d.before a0 Z = true) : Jvm.RoadKit.slotOf Z "com/example/adaptive_mirror/adaptivemirror/net/InFlight" "carried" "J" ≠ Jvm.RoadKit.slotOf Z "com/example/adaptive_mirror/adaptivemirror/net/InFlight" "frames" "Ljava/util/Queue;" := slot_ne (C := "com/example/adaptive_mirror/adaptivemirror/net/InFlight") (a0 := a0) (t := .long) (t' := (.object "java/util/Queue")) (Or.inl (wd101 hw)) (Or.inr (wd30 hw)) (by decide) (by decide) (by decide)
theorem sn_InFlight_carriedAt_frames {a0 : Array Value} {Z : State} (hw : ∀ d ∈ tables_1, d.before a0 Z = true) : Jvm.RoadKit.slotOf Z "com/example/adaptive_mirror/adaptivemirror/net/InFlight" "carriedAt" "J" ≠ Jvm.RoadKit.slotOf Z "com/example/adaptive_mirror/adaptivemirror/net/InFlight" "frames" "Ljava/util/Queue;" := slot_ne (C := "com/example/adaptive_mirror/adaptivemirror/net/InFlight") (a0 := a0) (t := .long) (t' := (.object "java/util/Queue")) (Or.inl (wd235 hw)) (Or.inr (wd30 hw)) (by decide) (by decide) (by decide)
theorem sn_InFlight_frames_flushes {a0 : Array Value} {Z : State} (hw : ∀ d ∈ tables_1, d.before a0 Z = true) : Jvm.RoadKit.slotOf Z "com/example/adaptive_mirror/adaptivemirror/net/InFlight" "frames" "Ljava/util/Queue;" ≠ Jvm.RoadKit.slotOf Z "com/example/adaptive_mirror/adaptivemirror/net/InFlight" "flushes" "Ljava/util/Queue;" := slot_ne (C := "com/example/adaptive_mirror/adaptivemirror/net/InFlight") (a0 := a0) (t := (.object "java/util/Queue")) (t' := (.object "java/util/Queue")) (Or.inr (wd30 hw)) (Or.inr (wd32 hw)) (by decide) (by decide) (by decide)
theorem sn_InFlight_roundTrip_flushes {a0 : Array Value} {Z : State} (hw : ∀ d ∈ tables_1, d.before a0 Z = true) : Jvm.RoadKit.slotOf Z "com/example/adaptive_mirror/adaptivemirror/net/InFlight" "roundTrip" "J" ≠ Jvm.RoadKit.slotOf Z "com/example/adaptive_mirror/adaptivemirror/net/InFlight" "flushes" "Ljava/util/Queue;" := slot_ne (C := "com/example/adaptive_mirror/adaptivemirror/net/InFlight") (a0 := a0) (t := .long) (t' := (.object "java/util/Queue")) (Or.inl (wd35 hw)) (Or.inr (wd32 hw)) (by decide) (by decide) (by decide)
theorem sn_InFlight_written_flushes {a0 : Array Value} {Z : State} (hw : ∀ d ∈ tables_1, d.before a0 Z = true) : Jvm.RoadKit.slotOf Z "com/example/adaptive_mirror/adaptivemirror/net/InFlight" "written" "J" ≠ Jvm.RoadKit.slotOf Z "com/example/adaptive_mirror/adaptivemirror/net/InFlight" "flushes" "Ljava/util/Queue;" := slot_ne (C := "com/example/adaptive_mirror/adaptivemirror/net/InFlight") (a0 := a0) (t := .long) (t' := (.object "java/util/Queue")) (Or.inl (wd37 hw)) (Or.inr (wd32 hw)) (by decide) (by decide) (by decide)
theorem sn_InFlight_flushed_flushes {a0 : Array Value} {Z : State} (hw : ∀ d ∈ tables_1, d.before a0 Z = true) : Jvm.RoadKit.slotOf Z "com/example/adaptive_mirror/adaptivemirror/net/InFlight" "flushed" "J" ≠ Jvm.RoadKit.slotOf Z "com/example/adaptive_mirror/adaptivemirror/net/InFlight" "flushes" "Ljava/util/Queue;" := slot_ne (C := "com/example/adaptive_mirror/adaptivemirror/net/InFlight") (a0 := a0) (t := .long) (t' := (.object "java/util/Queue")) (Or.inl (wd39 hw)) (Or.inr (wd32 hw)) (by decide) (by decide) (by decide)
theorem sn_InFlight_acknowledged_flushes {a0 : Array Value} {Z : State} (hw : ∀ d ∈ tables_1, d.before a0 Z = true) : Jvm.RoadKit.slotOf Z "com/example/adaptive_mirror/adaptivemirror/net/InFlight" "acknowledged" "J" ≠ Jvm.RoadKit.slotOf Z "com/example/adaptive_mirror/adaptivemirror/net/InFlight" "flushes" "Ljava/util/Queue;" := slot_ne (C := "com/example/adaptive_mirror/adaptivemirror/net/InFlight") (a0 := a0) (t := .long) (t' := (.object "java/util/Queue")) (Or.inl (wd84 hw)) (Or.inr (wd32 hw)) (by decide) (by decide) (by decide)
theorem sn_InFlight_carried_flushes {a0 : Array Value} {Z : State} (hw : ∀ d ∈ tables_1, d.before a0 Z = true) : Jvm.RoadKit.slotOf Z "com/example/adaptive_mirror/adaptivemirror/net/InFlight" "carried" "J" ≠ Jvm.RoadKit.slotOf Z "com/example/adaptive_mirror/adaptivemirror/net/InFlight" "flushes" "Ljava/util/Queue;" := slot_ne (C := "com/example/adaptive_mirror/adaptivemirror/net/InFlight") (a0 := a0) (t := .long) (t' := (.object "java/util/Queue")) (Or.inl (wd101 hw)) (Or.inr (wd32 hw)) (by decide) (by decide) (by decide)
theorem sn_InFlight_carriedAt_flushes {a0 : Array Value} {Z : State} (hw : ∀ d ∈ tables_1, d.before a0 Z = true) : Jvm.RoadKit.slotOf Z "com/example/adaptive_mirror/adaptivemirror/net/InFlight" "carriedAt" "J" ≠ Jvm.RoadKit.slotOf Z "com/example/adaptive_mirror/adaptivemirror/net/InFlight" "flushes" "Ljava/util/Queue;" := slot_ne (C := "com/example/adaptive_mirror/adaptivemirror/net/InFlight") (a0 := a0) (t := .long) (t' := (.object "java/util/Queue")) (Or.inl (wd235 hw)) (Or.inr (wd32 hw)) (by decide) (by decide) (by decide)
theorem sn_InFlight_frames_roundTrip {a0 : Array Value} {Z : State} (hw : ∀ d ∈ tables_1, d.before a0 Z = true) : Jvm.RoadKit.slotOf Z "com/example/adaptive_mirror/adaptivemirror/net/InFlight" "frames" "Ljava/util/Queue;" ≠ Jvm.RoadKit.slotOf Z "com/example/adaptive_mirror/adaptivemirror/net/InFlight" "roundTrip" "J" := slot_ne (C := "com/example/adaptive_mirror/adaptivemirror/net/InFlight") (a0 := a0) (t := (.object "java/util/Queue")) (t' := .long) (Or.inr (wd30 hw)) (Or.inl (wd35 hw)) (by decide) (by decide) (by decide)
theorem sn_InFlight_flushes_roundTrip {a0 : Array Value} {Z : State} (hw : ∀ d ∈ tables_1, d.before a0 Z = true) : Jvm.RoadKit.slotOf Z "com/example/adaptive_mirror/adaptivemirror/net/InFlight" "flushes" "Ljava/util/Queue;" ≠ Jvm.RoadKit.slotOf Z "com/example/adaptive_mirror/adaptivemirror/net/InFlight" "roundTrip" "J" := slot_ne (C := "com/example/adaptive_mirror/adaptivemirror/net/InFlight") (a0 := a0) (t := (.object "java/util/Queue")) (t' := .long) (Or.inr (wd32 hw)) (Or.inl (wd35 hw)) (by decide) (by decide) (by decide)
theorem sn_InFlight_written_roundTrip {a0 : Array Value} {Z : State} (hw : ∀ d ∈ tables_1, d.before a0 Z = true) : Jvm.RoadKit.slotOf Z "com/example/adaptive_mirror/adaptivemirror/net/InFlight" "written" "J" ≠ Jvm.RoadKit.slotOf Z "com/example/adaptive_mirror/adaptivemirror/net/InFlight" "roundTrip" "J" := slot_ne (C := "com/example/adaptive_mirror/adaptivemirror/net/InFlight") (a0 := a0) (t := .long) (t' := .long) (Or.inl (wd37 hw)) (Or.inl (wd35 hw)) (by decide) (by decide) (by decide)
theorem sn_InFlight_flushed_roundTrip {a0 : Array Value} {Z : State} (hw : ∀ d ∈ tables_1, d.before a0 Z = true) : Jvm.RoadKit.slotOf Z "com/example/adaptive_mirror/adaptivemirror/net/InFlight" "flushed" "J" ≠ Jvm.RoadKit.slotOf Z "com/example/adaptive_mirror/adaptivemirror/net/InFlight" "roundTrip" "J" := slot_ne (C := "com/example/adaptive_mirror/adaptivemirror/net/InFlight") (a0 := a0) (t := .long) (t' := .long) (Or.inl (wd39 hw)) (Or.inl (wd35 hw)) (by decide) (by decide) (by decide)
theorem sn_InFlight_acknowledged_roundTrip {a0 : Array Value} {Z : State} (hw : ∀ d ∈ tables_1, d.before a0 Z = true) : Jvm.RoadKit.slotOf Z "com/example/adaptive_mirror/adaptivemirror/net/InFlight" "acknowledged" "J" ≠ Jvm.RoadKit.slotOf Z "com/example/adaptive_mirror/adaptivemirror/net/InFlight" "roundTrip" "J" := slot_ne (C := "com/example/adaptive_mirror/adaptivemirror/net/InFlight") (a0 := a0) (t := .long) (t' := .long) (Or.inl (wd84 hw)) (Or.inl (wd35 hw)) (by decide) (by decide) (by decide)
theorem sn_InFlight_carried_roundTrip {a0 : Array Value} {Z : State} (hw : ∀ d ∈ tables_1, d.before a0 Z = true) : Jvm.RoadKit.slotOf Z "com/example/adaptive_mirror/adaptivemirror/net/InFlight" "carried" "J" ≠ Jvm.RoadKit.slotOf Z "com/example/adaptive_mirror/adaptivemirror/net/InFlight" "roundTrip" "J" := slot_ne (C := "com/example/adaptive_mirror/adaptivemirror/net/InFlight") (a0 := a0) (t := .long) (t' := .long) (Or.inl (wd101 hw)) (Or.inl (wd35 hw)) (by decide) (by decide) (by decide)
theorem sn_InFlight_carriedAt_roundTrip {a0 : Array Value} {Z : State} (hw : ∀ d ∈ tables_1, d.before a0 Z = true) : Jvm.RoadKit.slotOf Z "com/example/adaptive_mirror/adaptivemirror/net/InFlight" "carriedAt" "J" ≠ Jvm.RoadKit.slotOf Z "com/example/adaptive_mirror/adaptivemirror/net/InFlight" "roundTrip" "J" := slot_ne (C := "com/example/adaptive_mirror/adaptivemirror/net/InFlight") (a0 := a0) (t := .long) (t' := .long) (Or.inl (wd235 hw)) (Or.inl (wd35 hw)) (by decide) (by decide) (by decide)
theorem sn_InFlight_frames_written {a0 : Array Value} {Z : State} (hw : ∀ d ∈ tables_1, d.before a0 Z = true) : Jvm.RoadKit.slotOf Z "com/example/adaptive_mirror/adaptivemirror/net/InFlight" "frames" "Ljava/util/Queue;" ≠ Jvm.RoadKit.slotOf Z "com/example/adaptive_mirror/adaptivemirror/net/InFlight" "written" "J" := slot_ne (C := "com/example/adaptive_mirror/adaptivemirror/net/InFlight") (a0 := a0) (t := (.object "java/util/Queue")) (t' := .long) (Or.inr (wd30 hw)) (Or.inl (wd37 hw)) (by decide) (by decide) (by decide)
theorem sn_InFlight_flushes_written {a0 : Array Value} {Z : State} (hw : ∀ d ∈ tables_1, d.before a0 Z = true) : Jvm.RoadKit.slotOf Z "com/example/adaptive_mirror/adaptivemirror/net/InFlight" "flushes" "Ljava/util/Queue;" ≠ Jvm.RoadKit.slotOf Z "com/example/adaptive_mirror/adaptivemirror/net/InFlight" "written" "J" := slot_ne (C := "com/example/adaptive_mirror/adaptivemirror/net/InFlight") (a0 := a0) (t := (.object "java/util/Queue")) (t' := .long) (Or.inr (wd32 hw)) (Or.inl (wd37 hw)) (by decide) (by decide) (by decide)
theorem sn_InFlight_roundTrip_written {a0 : Array Value} {Z : State} (hw : ∀ d ∈ tables_1, d.before a0 Z = true) : Jvm.RoadKit.slotOf Z "com/example/adaptive_mirror/adaptivemirror/net/InFlight" "roundTrip" "J" ≠ Jvm.RoadKit.slotOf Z "com/example/adaptive_mirror/adaptivemirror/net/InFlight" "written" "J" := slot_ne (C := "com/example/adaptive_mirror/adaptivemirror/net/InFlight") (a0 := a0) (t := .long) (t' := .long) (Or.inl (wd35 hw)) (Or.inl (wd37 hw)) (by decide) (by decide) (by decide)
theorem sn_InFlight_flushed_written {a0 : Array Value} {Z : State} (hw : ∀ d ∈ tables_1, d.before a0 Z = true) : Jvm.RoadKit.slotOf Z "com/example/adaptive_mirror/adaptivemirror/net/InFlight" "flushed" "J" ≠ Jvm.RoadKit.slotOf Z "com/example/adaptive_mirror/adaptivemirror/net/InFlight" "written" "J" := slot_ne (C := "com/example/adaptive_mirror/adaptivemirror/net/InFlight") (a0 := a0) (t := .long) (t' := .long) (Or.inl (wd39 hw)) (Or.inl (wd37 hw)) (by decide) (by decide) (by decide)
theorem sn_InFlight_acknowledged_written {a0 : Array Value} {Z : State} (hw : ∀ d ∈ tables_1, d.before a0 Z = true) : Jvm.RoadKit.slotOf Z "com/example/adaptive_mirror/adaptivemirror/net/InFlight" "acknowledged" "J" ≠ Jvm.RoadKit.slotOf Z "com/example/adaptive_mirror/adaptivemirror/net/InFlight" "written" "J" := slot_ne (C := "com/example/adaptive_mirror/adaptivemirror/net/InFlight") (a0 := a0) (t := .long) (t' := .long) (Or.inl (wd84 hw)) (Or.inl (wd37 hw)) (by decide) (by decide) (by decide)
theorem sn_InFlight_carried_written {a0 : Array Value} {Z : State} (hw : ∀ d ∈ tables_1, d.before a0 Z = true) : Jvm.RoadKit.slotOf Z "com/example/adaptive_mirror/adaptivemirror/net/InFlight" "carried" "J" ≠ Jvm.RoadKit.slotOf Z "com/example/adaptive_mirror/adaptivemirror/net/InFlight" "written" "J" := slot_ne (C := "com/example/adaptive_mirror/adaptivemirror/net/InFlight") (a0 := a0) (t := .long) (t' := .long) (Or.inl (wd101 hw)) (Or.inl (wd37 hw)) (by decide) (by decide) (by decide)
theorem sn_InFlight_carriedAt_written {a0 : Array Value} {Z : State} (hw : ∀ d ∈ tables_1, d.before a0 Z = true) : Jvm.RoadKit.slotOf Z "com/example/adaptive_mirror/adaptivemirror/net/InFlight" "carriedAt" "J" ≠ Jvm.RoadKit.slotOf Z "com/example/adaptive_mirror/adaptivemirror/net/InFlight" "written" "J" := slot_ne (C := "com/example/adaptive_mirror/adaptivemirror/net/InFlight") (a0 := a0) (t := .long) (t' := .long) (Or.inl (wd235 hw)) (Or.inl (wd37 hw)) (by decide) (by decide) (by decide)
theorem sn_InFlight_frames_flushed {a0 : Array Value} {Z : State} (hw : ∀ d ∈ tables_1, d.before a0 Z = true) : Jvm.RoadKit.slotOf Z "com/example/adaptive_mirror/adaptivemirror/net/InFlight" "frames" "Ljava/util/Queue;" ≠ Jvm.RoadKit.slotOf Z "com/example/adaptive_mirror/adaptivemirror/net/InFlight" "flushed" "J" := slot_ne (C := "com/example/adaptive_mirror/adaptivemirror/net/InFlight") (a0 := a0) (t := (.object "java/util/Queue")) (t' := .long) (Or.inr (wd30 hw)) (Or.inl (wd39 hw)) (by decide) (by decide) (by decide)
theorem sn_InFlight_flushes_flushed {a0 : Array Value} {Z : State} (hw : ∀ d ∈ tables_1, d.before a0 Z = true) : Jvm.RoadKit.slotOf Z "com/example/adaptive_mirror/adaptivemirror/net/InFlight" "flushes" "Ljava/util/Queue;" ≠ Jvm.RoadKit.slotOf Z "com/example/adaptive_mirror/adaptivemirror/net/InFlight" "flushed" "J" := slot_ne (C := "com/example/adaptive_mirror/adaptivemirror/net/InFlight") (a0 := a0) (t := (.object "java/util/Queue")) (t' := .long) (Or.inr (wd32 hw)) (Or.inl (wd39 hw)) (by decide) (by decide) (by decide)
theorem sn_InFlight_roundTrip_flushed {a0 : Array Value} {Z : State} (hw : ∀ d ∈ tables_1, d.before a0 Z = true) : Jvm.RoadKit.slotOf Z "com/example/adaptive_mirror/adaptivemirror/net/InFlight" "roundTrip" "J" ≠ Jvm.RoadKit.slotOf Z "com/example/adaptive_mirror/adaptivemirror/net/InFlight" "flushed" "J" := slot_ne (C := "com/example/adaptive_mirror/adaptivemirror/net/InFlight") (a0 := a0) (t := .long) (t' := .long) (Or.inl (wd35 hw)) (Or.inl (wd39 hw)) (by decide) (by decide) (by decide)
theorem sn_InFlight_written_flushed {a0 : Array Value} {Z : State} (hw : ∀ d ∈ tables_1, d.before a0 Z = true) : Jvm.RoadKit.slotOf Z "com/example/adaptive_mirror/adaptivemirror/net/InFlight" "written" "J" ≠ Jvm.RoadKit.slotOf Z "com/example/adaptive_mirror/adaptivemirror/net/InFlight" "flushed" "J" := slot_ne (C := "com/example/adaptive_mirror/adaptivemirror/net/InFlight") (a0 := a0) (t := .long) (t' := .long) (Or.inl (wd37 hw)) (Or.inl (wd39 hw)) (by decide) (by decide) (by decide)
theorem sn_InFlight_acknowledged_flushed {a0 : Array Value} {Z : State} (hw : ∀ d ∈ tables_1, d.before a0 Z = true) : Jvm.RoadKit.slotOf Z "com/example/adaptive_mirror/adaptivemirror/net/InFlight" "acknowledged" "J" ≠ Jvm.RoadKit.slotOf Z "com/example/adaptive_mirror/adaptivemirror/net/InFlight" "flushed" "J" := slot_ne (C := "com/example/adaptive_mirror/adaptivemirror/net/InFlight") (a0 := a0) (t := .long) (t' := .long) (Or.inl (wd84 hw)) (Or.inl (wd39 hw)) (by decide) (by decide) (by decide)
theorem sn_InFlight_carried_flushed {a0 : Array Value} {Z : State} (hw : ∀ d ∈ tables_1, d.before a0 Z = true) : Jvm.RoadKit.slotOf Z "com/example/adaptive_mirror/adaptivemirror/net/InFlight" "carried" "J" ≠ Jvm.RoadKit.slotOf Z "com/example/adaptive_mirror/adaptivemirror/net/InFlight" "flushed" "J" := slot_ne (C := "com/example/adaptive_mirror/adaptivemirror/net/InFlight") (a0 := a0) (t := .long) (t' := .long) (Or.inl (wd101 hw)) (Or.inl (wd39 hw)) (by decide) (by decide) (by decide)
theorem sn_InFlight_carriedAt_flushed {a0 : Array Value} {Z : State} (hw : ∀ d ∈ tables_1, d.before a0 Z = true) : Jvm.RoadKit.slotOf Z "com/example/adaptive_mirror/adaptivemirror/net/InFlight" "carriedAt" "J" ≠ Jvm.RoadKit.slotOf Z "com/example/adaptive_mirror/adaptivemirror/net/InFlight" "flushed" "J" := slot_ne (C := "com/example/adaptive_mirror/adaptivemirror/net/InFlight") (a0 := a0) (t := .long) (t' := .long) (Or.inl (wd235 hw)) (Or.inl (wd39 hw)) (by decide) (by decide) (by decide)
theorem sn_InFlight_written_carried {a0 : Array Value} {Z : State} (hw : ∀ d ∈ tables_1, d.before a0 Z = true) : Jvm.RoadKit.slotOf Z "com/example/adaptive_mirror/adaptivemirror/net/InFlight" "written" "J" ≠ Jvm.RoadKit.slotOf Z "com/example/adaptive_mirror/adaptivemirror/net/InFlight" "carried" "J" := slot_ne (C := "com/example/adaptive_mirror/adaptivemirror/net/InFlight") (a0 := a0) (t := .long) (t' := .long) (Or.inl (wd37 hw)) (Or.inl (wd101 hw)) (by decide) (by decide) (by decide)
theorem sn_InFlight_roundTrip_carried {a0 : Array Value} {Z : State} (hw : ∀ d ∈ tables_1, d.before a0 Z = true) : Jvm.RoadKit.slotOf Z "com/example/adaptive_mirror/adaptivemirror/net/InFlight" "roundTrip" "J" ≠ Jvm.RoadKit.slotOf Z "com/example/adaptive_mirror/adaptivemirror/net/InFlight" "carried" "J" := slot_ne (C := "com/example/adaptive_mirror/adaptivemirror/net/InFlight") (a0 := a0) (t := .long) (t' := .long) (Or.inl (wd35 hw)) (Or.inl (wd101 hw)) (by decide) (by decide) (by decide)
theorem sn_InFlight_carriedAt_carried {a0 : Array Value} {Z : State} (hw : ∀ d ∈ tables_1, d.before a0 Z = true) : Jvm.RoadKit.slotOf Z "com/example/adaptive_mirror/adaptivemirror/net/InFlight" "carriedAt" "J" ≠ Jvm.RoadKit.slotOf Z "com/example/adaptive_mirror/adaptivemirror/net/InFlight" "carried" "J" := slot_ne (C := "com/example/adaptive_mirror/adaptivemirror/net/InFlight") (a0 := a0) (t := .long) (t' := .long) (Or.inl (wd235 hw)) (Or.inl (wd101 hw)) (by decide) (by decide) (by decide)
theorem sn_InFlight_frames_carried {a0 : Array Value} {Z : State} (hw : ∀ d ∈ tables_1, d.before a0 Z = true) : Jvm.RoadKit.slotOf Z "com/example/adaptive_mirror/adaptivemirror/net/InFlight" "frames" "Ljava/util/Queue;" ≠ Jvm.RoadKit.slotOf Z "com/example/adaptive_mirror/adaptivemirror/net/InFlight" "carried" "J" := slot_ne (C := "com/example/adaptive_mirror/adaptivemirror/net/InFlight") (a0 := a0) (t := (.object "java/util/Queue")) (t' := .long) (Or.inr (wd30 hw)) (Or.inl (wd101 hw)) (by decide) (by decide) (by decide)
theorem sn_InFlight_acknowledged_carried {a0 : Array Value} {Z : State} (hw : ∀ d ∈ tables_1, d.before a0 Z = true) : Jvm.RoadKit.slotOf Z "com/example/adaptive_mirror/adaptivemirror/net/InFlight" "acknowledged" "J" ≠ Jvm.RoadKit.slotOf Z "com/example/adaptive_mirror/adaptivemirror/net/InFlight" "carried" "J" := slot_ne (C := "com/example/adaptive_mirror/adaptivemirror/net/InFlight") (a0 := a0) (t := .long) (t' := .long) (Or.inl (wd84 hw)) (Or.inl (wd101 hw)) (by decide) (by decide) (by decide)
theorem sn_InFlight_written_carriedAt {a0 : Array Value} {Z : State} (hw : ∀ d ∈ tables_1, d.before a0 Z = true) : Jvm.RoadKit.slotOf Z "com/example/adaptive_mirror/adaptivemirror/net/InFlight" "written" "J" ≠ Jvm.RoadKit.slotOf Z "com/example/adaptive_mirror/adaptivemirror/net/InFlight" "carriedAt" "J" := slot_ne (C := "com/example/adaptive_mirror/adaptivemirror/net/InFlight") (a0 := a0) (t := .long) (t' := .long) (Or.inl (wd37 hw)) (Or.inl (wd235 hw)) (by decide) (by decide) (by decide)
theorem sn_InFlight_roundTrip_carriedAt {a0 : Array Value} {Z : State} (hw : ∀ d ∈ tables_1, d.before a0 Z = true) : Jvm.RoadKit.slotOf Z "com/example/adaptive_mirror/adaptivemirror/net/InFlight" "roundTrip" "J" ≠ Jvm.RoadKit.slotOf Z "com/example/adaptive_mirror/adaptivemirror/net/InFlight" "carriedAt" "J" := slot_ne (C := "com/example/adaptive_mirror/adaptivemirror/net/InFlight") (a0 := a0) (t := .long) (t' := .long) (Or.inl (wd35 hw)) (Or.inl (wd235 hw)) (by decide) (by decide) (by decide)
theorem sn_InFlight_carried_carriedAt {a0 : Array Value} {Z : State} (hw : ∀ d ∈ tables_1, d.before a0 Z = true) : Jvm.RoadKit.slotOf Z "com/example/adaptive_mirror/adaptivemirror/net/InFlight" "carried" "J" ≠ Jvm.RoadKit.slotOf Z "com/example/adaptive_mirror/adaptivemirror/net/InFlight" "carriedAt" "J" := slot_ne (C := "com/example/adaptive_mirror/adaptivemirror/net/InFlight") (a0 := a0) (t := .long) (t' := .long) (Or.inl (wd101 hw)) (Or.inl (wd235 hw)) (by decide) (by decide) (by decide)
theorem sn_InFlight_frames_carriedAt {a0 : Array Value} {Z : State} (hw : ∀ d ∈ tables_1, d.before a0 Z = true) : Jvm.RoadKit.slotOf Z "com/example/adaptive_mirror/adaptivemirror/net/InFlight" "frames" "Ljava/util/Queue;" ≠ Jvm.RoadKit.slotOf Z "com/example/adaptive_mirror/adaptivemirror/net/InFlight" "carriedAt" "J" := slot_ne (C := "com/example/adaptive_mirror/adaptivemirror/net/InFlight") (a0 := a0) (t := (.object "java/util/Queue")) (t' := .long) (Or.inr (wd30 hw)) (Or.inl (wd235 hw)) (by decide) (by decide) (by decide)
theorem sn_InFlight_acknowledged_carriedAt {a0 : Array Value} {Z : State} (hw : ∀ d ∈ tables_1, d.before a0 Z = true) : Jvm.RoadKit.slotOf Z "com/example/adaptive_mirror/adaptivemirror/net/InFlight" "acknowledged" "J" ≠ Jvm.RoadKit.slotOf Z "com/example/adaptive_mirror/adaptivemirror/net/InFlight" "carriedAt" "J" := slot_ne (C := "com/example/adaptive_mirror/adaptivemirror/net/InFlight") (a0 := a0) (t := .long) (t' := .long) (Or.inl (wd84 hw)) (Or.inl (wd235 hw)) (by decide) (by decide) (by decide)
theorem sn_InFlight_frames_acknowledged {a0 : Array Value} {Z : State} (hw : ∀ d ∈ tables_1, d.before a0 Z = true) : Jvm.RoadKit.slotOf Z "com/example/adaptive_mirror/adaptivemirror/net/InFlight" "frames" "Ljava/util/Queue;" ≠ Jvm.RoadKit.slotOf Z "com/example/adaptive_mirror/adaptivemirror/net/InFlight" "acknowledged" "J" := slot_ne (C := "com/example/adaptive_mirror/adaptivemirror/net/InFlight") (a0 := a0) (t := (.object "java/util/Queue")) (t' := .long) (Or.inr (wd30 hw)) (Or.inl (wd84 hw)) (by decide) (by decide) (by decide)
theorem sn_InFlight_flushes_acknowledged {a0 : Array Value} {Z : State} (hw : ∀ d ∈ tables_1, d.before a0 Z = true) : Jvm.RoadKit.slotOf Z "com/example/adaptive_mirror/adaptivemirror/net/InFlight" "flushes" "Ljava/util/Queue;" ≠ Jvm.RoadKit.slotOf Z "com/example/adaptive_mirror/adaptivemirror/net/InFlight" "acknowledged" "J" := slot_ne (C := "com/example/adaptive_mirror/adaptivemirror/net/InFlight") (a0 := a0) (t := (.object "java/util/Queue")) (t' := .long) (Or.inr (wd32 hw)) (Or.inl (wd84 hw)) (by decide) (by decide) (by decide)
theorem sn_InFlight_roundTrip_acknowledged {a0 : Array Value} {Z : State} (hw : ∀ d ∈ tables_1, d.before a0 Z = true) : Jvm.RoadKit.slotOf Z "com/example/adaptive_mirror/adaptivemirror/net/InFlight" "roundTrip" "J" ≠ Jvm.RoadKit.slotOf Z "com/example/adaptive_mirror/adaptivemirror/net/InFlight" "acknowledged" "J" := slot_ne (C := "com/example/adaptive_mirror/adaptivemirror/net/InFlight") (a0 := a0) (t := .long) (t' := .long) (Or.inl (wd35 hw)) (Or.inl (wd84 hw)) (by decide) (by decide) (by decide)
theorem sn_InFlight_written_acknowledged {a0 : Array Value} {Z : State} (hw : ∀ d ∈ tables_1, d.before a0 Z = true) : Jvm.RoadKit.slotOf Z "com/example/adaptive_mirror/adaptivemirror/net/InFlight" "written" "J" ≠ Jvm.RoadKit.slotOf Z "com/example/adaptive_mirror/adaptivemirror/net/InFlight" "acknowledged" "J" := slot_ne (C := "com/example/adaptive_mirror/adaptivemirror/net/InFlight") (a0 := a0) (t := .long) (t' := .long) (Or.inl (wd37 hw)) (Or.inl (wd84 hw)) (by decide) (by decide) (by decide)
theorem sn_InFlight_flushed_acknowledged {a0 : Array Value} {Z : State} (hw : ∀ d ∈ tables_1, d.before a0 Z = true) : Jvm.RoadKit.slotOf Z "com/example/adaptive_mirror/adaptivemirror/net/InFlight" "flushed" "J" ≠ Jvm.RoadKit.slotOf Z "com/example/adaptive_mirror/adaptivemirror/net/InFlight" "acknowledged" "J" := slot_ne (C := "com/example/adaptive_mirror/adaptivemirror/net/InFlight") (a0 := a0) (t := .long) (t' := .long) (Or.inl (wd39 hw)) (Or.inl (wd84 hw)) (by decide) (by decide) (by decide)
theorem sn_InFlight_carried_acknowledged {a0 : Array Value} {Z : State} (hw : ∀ d ∈ tables_1, d.before a0 Z = true) : Jvm.RoadKit.slotOf Z "com/example/adaptive_mirror/adaptivemirror/net/InFlight" "carried" "J" ≠ Jvm.RoadKit.slotOf Z "com/example/adaptive_mirror/adaptivemirror/net/InFlight" "acknowledged" "J" := slot_ne (C := "com/example/adaptive_mirror/adaptivemirror/net/InFlight") (a0 := a0) (t := .long) (t' := .long) (Or.inl (wd101 hw)) (Or.inl (wd84 hw)) (by decide) (by decide) (by decide)
theorem sn_InFlight_carriedAt_acknowledged {a0 : Array Value} {Z : State} (hw : ∀ d ∈ tables_1, d.before a0 Z = true) : Jvm.RoadKit.slotOf Z "com/example/adaptive_mirror/adaptivemirror/net/InFlight" "carriedAt" "J" ≠ Jvm.RoadKit.slotOf Z "com/example/adaptive_mirror/adaptivemirror/net/InFlight" "acknowledged" "J" := slot_ne (C := "com/example/adaptive_mirror/adaptivemirror/net/InFlight") (a0 := a0) (t := .long) (t' := .long) (Or.inl (wd235 hw)) (Or.inl (wd84 hw)) (by decide) (by decide) (by decide)
theorem pd0 : parseMethodDescriptor "()V" = some ⟨[], none⟩ := by decide +kernel
theorem pd1 : parseMethodDescriptor "(II)I" = some ⟨[.int, .int], some .int⟩ := by decide +kernel
theorem pd2 : parseMethodDescriptor "(Ljava/lang/Object;)V" = some ⟨[(.object "java/lang/Object")], none⟩ := by decide +kernel
theorem pd3 : parseMethodDescriptor "([Ljava/lang/Object;I)Ljava/lang/Object;" = some ⟨[(.array (.object "java/lang/Object")), .int], some (.object "java/lang/Object")⟩ := by decide +kernel
theorem pd4 : parseMethodDescriptor "()Ljava/lang/Object;" = some ⟨[], some (.object "java/lang/Object")⟩ := by decide +kernel
theorem pd5 : parseMethodDescriptor "(I)V" = some ⟨[.int], none⟩ := by decide +kernel
theorem pd6 : parseMethodDescriptor "(JJ)V" = some ⟨[.long, .long], none⟩ := by decide +kernel
theorem pd7 : parseMethodDescriptor "(Ljava/lang/Object;)Z" = some ⟨[(.object "java/lang/Object")], some .boolean⟩ := by decide +kernel
theorem pd8 : parseMethodDescriptor "(JJ)J" = some ⟨[.long, .long], some .long⟩ := by decide +kernel
theorem pd9 : parseMethodDescriptor "()J" = some ⟨[], some .long⟩ := by decide +kernel
theorem pd10 : parseMethodDescriptor "(JJJJ)V" = some ⟨[.long, .long, .long, .long], none⟩ := by decide +kernel
theorem pd11 : parseMethodDescriptor "()Z" = some ⟨[], some .boolean⟩ := by decide +kernel
theorem pd12 : parseMethodDescriptor "(Lcom/example/adaptive_mirror/adaptivemirror/net/InFlight$Frame;J)V" = some ⟨[(.object "com/example/adaptive_mirror/adaptivemirror/net/InFlight$Frame"), .long], none⟩ := by decide +kernel
theorem pd13 : parseMethodDescriptor "([Ljava/lang/Object;ILjava/lang/Class;)[Ljava/lang/Object;" = some ⟨[(.array (.object "java/lang/Object")), .int, (.object "java/lang/Class")], some (.array (.object "java/lang/Object"))⟩ := by decide +kernel
theorem pd14 : parseMethodDescriptor "([Ljava/lang/Object;I)[Ljava/lang/Object;" = some ⟨[(.array (.object "java/lang/Object")), .int], some (.array (.object "java/lang/Object"))⟩ := by decide +kernel
theorem pd15 : parseMethodDescriptor "(JJ)I" = some ⟨[.long, .long], some .int⟩ := by decide +kernel
theorem pn0 : plainName "java/util/AbstractCollection" = true := by first | (simp [plainName, overriddenIn]; done) | decide +kernel
theorem pn1 : plainName "java/lang/Record" = true := by first | (simp [plainName, overriddenIn]; done) | decide +kernel
theorem pn2 : plainName "java/util/ArrayDeque" = true := by first | (simp [plainName, overriddenIn]; done) | decide +kernel
theorem pn3 : plainName "com/example/adaptive_mirror/adaptivemirror/net/InFlight$Flush" = true := by first | (simp [plainName, overriddenIn]; done) | decide +kernel
theorem pn4 : plainName "com/example/adaptive_mirror/adaptivemirror/net/InFlight$Frame" = true := by first | (simp [plainName, overriddenIn]; done) | decide +kernel
theorem pn5 : plainName "com/example/adaptive_mirror/adaptivemirror/net/InFlight" = true := by first | (simp [plainName, overriddenIn]; done) | decide +kernel
theorem pn6 : plainName "java/util/Arrays" = true := by first | (simp [plainName, overriddenIn]; done) | decide +kernel
theorem pn7 : plainName "com/example/adaptive_mirror/adaptivemirror/net/InFlightIsEmptyPinLaw" = true := by first | (simp [plainName, overriddenIn]; done) | decide +kernel
set_option maxRecDepth 65536 in
set_option maxHeartbeats 40000000 in
theorem c_abc (l : Launch) (Z : State) (a0 : Array Value) (hw : ∀ d ∈ tables_1, d.before a0 Z = true) (ws : List Jvm.Cond) (b : Addr) (h0 : Heap) (n0 : Nat) (Z0 : n0 ≤ h0.size) :
    Ctr l Z (⟨"java/util/AbstractCollection", "<init>", "()V"⟩ : MethodName) jdk_22_method_1_code 1 none ws ({ frames := 1, cells := 0, slots := 0, locals := 12 } : Room) n0 #[(.ref b)] h0 (fun v h => v = none ∧ h0 = h) := by
  refine ctr (own := "java/util/AbstractCollection") (nm := "<init>") rfl rfl (Ls := #[.val (.ref b)]) (plainFor_of_name pn0) (fun m => by first | (simp [entryFrame, mkF, argsToLocals, Value.category]; done) | rfl) ?_
  intro p e s m below meth c K eh
  refine Jvm.OwnWp.aloadN K d_jdk_22_method_1_0 rfl rfl (pc' := 1) rfl ?_
  refine initObj K (wd23 hw) (wd9 hw) (wd10 hw) d_jdk_22_method_1_1 rfl (Nat.le_of_ble_eq_true rfl) (Nat.le_of_ble_eq_true rfl) (pc' := 4) rfl ?_
  refine retV K rfl d_jdk_22_method_1_4 (Nat.le_of_ble_eq_true rfl) (Nat.le_of_ble_eq_true rfl) ?_
  exact ⟨rfl, rfl⟩
set_option maxRecDepth 65536 in
set_option maxHeartbeats 40000000 in
theorem c_rec (l : Launch) (Z : State) (a0 : Array Value) (hw : ∀ d ∈ tables_1, d.before a0 Z = true) (ws : List Jvm.Cond) (b : Addr) (h0 : Heap) (n0 : Nat) (Z0 : n0 ≤ h0.size) :
    Ctr l Z (⟨"java/lang/Record", "<init>", "()V"⟩ : MethodName) jdk_30_method_1_code 1 none ws ({ frames := 1, cells := 0, slots := 0, locals := 12 } : Room) n0 #[(.ref b)] h0 (fun v h => v = none ∧ h0 = h) := by
  refine ctr (own := "java/lang/Record") (nm := "<init>") rfl rfl (Ls := #[.val (.ref b)]) (plainFor_of_name pn1) (fun m => by first | (simp [entryFrame, mkF, argsToLocals, Value.category]; done) | rfl) ?_
  intro p e s m below meth c K eh
  refine Jvm.OwnWp.aloadN K d_jdk_30_method_1_0 rfl rfl (pc' := 1) rfl ?_
  refine initObj K (wd51 hw) (wd9 hw) (wd10 hw) d_jdk_30_method_1_1 rfl (Nat.le_of_ble_eq_true rfl) (Nat.le_of_ble_eq_true rfl) (pc' := 4) rfl ?_
  refine retV K rfl d_jdk_30_method_1_4 (Nat.le_of_ble_eq_true rfl) (Nat.le_of_ble_eq_true rfl) ?_
  exact ⟨rfl, rfl⟩
set_option maxRecDepth 65536 in
set_option maxHeartbeats 40000000 in
theorem c_adi (l : Launch) (Z : State) (a0 : Array Value) (hw : ∀ d ∈ tables_1, d.before a0 Z = true) (ws : List Jvm.Cond) (b : Addr) (h0 : Heap) (n0 : Nat) (Z0 : n0 ≤ h0.size) (E : Exa Z h0 b "java/util/ArrayDeque") (ge_b : n0 ≤ b) (Fe : Fld Z h0 b "java/util/ArrayDeque" "elements" "[Ljava/lang/Object;" .null) (Fh : Fld Z h0 b "java/util/ArrayDeque" "head" "I" (.int 0)) (Ft : Fld Z h0 b "java/util/ArrayDeque" "tail" "I" (.int 0)) :
    Ctr l Z (⟨"java/util/ArrayDeque", "<init>", "(I)V"⟩ : MethodName) jdk_21_method_4_code 2 none ws ({ frames := 2, cells := 1, slots := 2, locals := 24 } : Room) n0 #[(.ref b), (.int 1)] h0 (fun v h => v = none ∧ Keep h0 h [b] ∧ ∃ ea : Addr, h0.size ≤ ea ∧ Exa Z h ea "[Ljava/lang/Object;" ∧ Exa Z h b "java/util/ArrayDeque" ∧ Fld Z h b "java/util/ArrayDeque" "elements" "[Ljava/lang/Object;" (.ref ea) ∧ Fld Z h b "java/util/ArrayDeque" "head" "I" (.int 0) ∧ Fld Z h b "java/util/ArrayDeque" "tail" "I" (.int 0) ∧ VecR Z h ea "java/lang/Object" (List.replicate 2 .null)) := by
  refine ctr (own := "java/util/ArrayDeque") (nm := "<init>") rfl rfl (Ls := #[.val (.ref b), .val (.int 1)]) (plainFor_of_name pn2) (fun m => by first | (simp [entryFrame, mkF, argsToLocals, Value.category]; done) | rfl) ?_
  intro p e s m below meth c K eh
  have P0 := Keep.refl h0 [b]
  show Go _ _ _ _ _ _ _ _ _ _ _ h0 0 0 (mkF m 0 #[.val (.ref b), .val (.int (1 : Int32))] []) _
  refine Jvm.OwnWp.aloadN K d_jdk_21_method_4_0 rfl rfl (pc' := 1) rfl ?_
  refine callInit K (y := (⟨"java/util/AbstractCollection", "<init>", "()V"⟩ : MethodName)) (b := b) (argsL := []) (S := []) rfl (wd17 hw) (wd18 hw) (wd21 hw) (wd22 hw) rfl (by decide) (c_abc l Z a0 hw [] b h0 n0 Z0) (lenOf pd0 rfl) d_jdk_21_method_4_1 rfl (Nat.le_of_ble_eq_true rfl) (Nat.le_of_ble_eq_true rfl) (Nat.le_of_ble_eq_true rfl) (Nat.le_of_ble_eq_true rfl) rfl (pc' := 4) rfl ?_
  rintro v1 h1 ⟨rfl, rfl⟩
  show Go _ _ _ _ _ _ _ _ _ _ _ h0 0 0 (mkF m 4 #[.val (.ref b), .val (.int (1 : Int32))] []) _
  refine Jvm.OwnWp.aloadN K d_jdk_21_method_4_4 rfl rfl (pc' := 5) rfl ?_
  refine Jvm.OwnWp.iloadN K d_jdk_21_method_4_5 rfl (pc' := 6) rfl ?_
  refine Jvm.OwnWp.iconst K (1 : Int32) d_jdk_21_method_4_6 (by decide) (pc' := 7) rfl ?_
  refine icY K d_jdk_21_method_4_7 (by decide) (pc' := 14) (by decide) (by decide) ?_
  refine Jvm.OwnWp.iloadN K d_jdk_21_method_4_14 rfl (pc' := 15) rfl ?_
  refine Jvm.OwnWp.ldcI K (wd24 hw) d_jdk_21_method_4_15 (pc' := 17) rfl ?_
  refine icY K d_jdk_21_method_4_17 (by decide) (pc' := 25) (by decide) (by decide) ?_
  refine Jvm.OwnWp.iloadN K d_jdk_21_method_4_25 rfl (pc' := 26) rfl ?_
  refine Jvm.OwnWp.iconst K (1 : Int32) d_jdk_21_method_4_26 (by decide) (pc' := 27) rfl ?_
  refine Jvm.OwnWp.iadd K d_jdk_21_method_4_27 (pc' := 28) rfl ?_
  refine newArrRX K (N := 2) (ad := "[Ljava/lang/Object;") (wd25 hw) (wd26 hw) (by decide) (by decide) (by decide) d_jdk_21_method_4_28 (Nat.le_of_ble_eq_true rfl) (Nat.le_of_ble_eq_true rfl) (pc' := 31) rfl ?_
  intro h2 b2 g2 E2 A2 B2
  have ne_b_b2 : b ≠ b2 := Nat.ne_of_lt (Nat.lt_of_lt_of_eq (Exa.lt E) g2.symm)
  have lt_b2 : h0.size ≤ b2 := Nat.le_trans P0.1 (Nat.le_of_eq g2.symm)
  have ge_b2 : n0 ≤ b2 := Nat.le_trans Z0 lt_b2
  have F2_elements_b := (Fld.ext E2 Fe)
  have F2_head_b := (Fld.ext E2 Fh)
  have F2_tail_b := (Fld.ext E2 Ft)
  have X2_b := (Exa.ext E2 E)
  have P2 := (P0.ext E2)
  refine putf K (wd27 hw) Via.refl F2_elements_b X2_b (Or.inl (wd28 hw)) (wd12 hw) (ty := (.array (.object "java/lang/Object"))) (by decide) rfl rfl ge_b d_jdk_21_method_4_31 (pc' := 34) rfl ?_
  intro h3 W3
  have F3_head_b := (Fld.other W3 F2_head_b (Or.inr (sn_ArrayDeque_head_elements hw)))
  have F3_tail_b := (Fld.other W3 F2_tail_b (Or.inr (sn_ArrayDeque_tail_elements hw)))
  have X3_b := (Exa.wr W3 X2_b)
  have X3_b2 := (Exa.wr W3 B2)
  have V3_b2 := (A2.other W3 (Ne.symm ne_b_b2))
  have P3 := (P2.wr W3 (Or.inl (List.mem_of_getElem? (i := 0) rfl)))
  have F3_elements_b := Fld.same W3 F2_elements_b
  refine retV K rfl d_jdk_21_method_4_34 (Nat.le_of_ble_eq_true rfl) (Nat.le_of_ble_eq_true rfl) ?_
  exact ⟨rfl, P3, _, lt_b2, X3_b2, X3_b, F3_elements_b, F3_head_b, F3_tail_b, V3_b2⟩
set_option maxRecDepth 65536 in
set_option maxHeartbeats 40000000 in
theorem c_inc (l : Launch) (Z : State) (a0 : Array Value) (hw : ∀ d ∈ tables_1, d.before a0 Z = true) (ws : List Jvm.Cond)  (h0 : Heap) (n0 : Nat) (Z0 : n0 ≤ h0.size) :
    Ctr l Z (⟨"java/util/ArrayDeque", "inc", "(II)I"⟩ : MethodName) jdk_21_method_6_code 2 (some .int) ws ({ frames := 0, cells := 0, slots := 0, locals := 0 } : Room) n0 #[(.int (0 : Int32)), (.int (2 : Int32))] h0 (fun v h => v = some (.int 1) ∧ h0 = h) := by
  refine ctr (own := "java/util/ArrayDeque") (nm := "inc") rfl rfl (Ls := #[.val (.int (0 : Int32)), .val (.int (2 : Int32))]) (plainFor_of_name pn2) (fun m => by first | (simp [entryFrame, mkF, argsToLocals, Value.category]; done) | rfl) ?_
  intro p e s m below meth c K eh
  refine Jvm.OwnWp.iinc K (1 : Int32) d_jdk_21_method_6_0 (by decide) rfl (Ls' := #[.val (.int ((0 : Int32) + (1 : Int32))), .val (.int (2 : Int32))]) rfl (pc' := 3) rfl ?_
  refine Jvm.OwnWp.iloadN K d_jdk_21_method_6_3 rfl (pc' := 4) rfl ?_
  refine Jvm.OwnWp.iloadN K d_jdk_21_method_6_4 rfl (pc' := 5) rfl ?_
  refine icY K d_jdk_21_method_6_5 (by decide) (pc' := 10) (by decide) (by decide) ?_
  refine Jvm.OwnWp.iloadN K d_jdk_21_method_6_10 rfl (pc' := 11) rfl ?_
  refine retI K rfl d_jdk_21_method_6_11 (Nat.le_of_ble_eq_true rfl) (Nat.le_of_ble_eq_true rfl) ?_
  exact ⟨rfl, rfl⟩
set_option maxRecDepth 65536 in
set_option maxHeartbeats 40000000 in
theorem c_addlU (l : Launch) (Z : State) (a0 : Array Value) (hw : ∀ d ∈ tables_1, d.before a0 Z = true) (ws : List Jvm.Cond) (b ea x : Addr) (h0 : Heap) (n0 : Nat) (Z0 : n0 ≤ h0.size) (X : Exa Z h0 ea "[Ljava/lang/Object;") (E : Exa Z h0 b "java/util/ArrayDeque") (Fe : Fld Z h0 b "java/util/ArrayDeque" "elements" "[Ljava/lang/Object;" (.ref ea)) (Fh : Fld Z h0 b "java/util/ArrayDeque" "head" "I" (.int 0)) (Ft : Fld Z h0 b "java/util/ArrayDeque" "tail" "I" (.int 0)) (V : VecR Z h0 ea "java/lang/Object" (List.replicate 2 .null)) (Xx : Exa Z h0 x "com/example/adaptive_mirror/adaptivemirror/net/InFlight$Flush") (ge_b : n0 ≤ b) (ge_ea : n0 ≤ ea) (ne_ea_b : ea ≠ b) (ne_x_ea : x ≠ ea) (ne_x_b : x ≠ b) :
    Ctr l Z (⟨"java/util/ArrayDeque", "addLast", "(Ljava/lang/Object;)V"⟩ : MethodName) jdk_21_method_13_code 3 none ws ({ frames := 1, cells := 0, slots := 0, locals := 15 } : Room) n0 #[(.ref b), (.ref x)] h0 (fun v h => v = none ∧ Keep h0 h [b, ea] ∧ Exa Z h ea "[Ljava/lang/Object;" ∧ Exa Z h b "java/util/ArrayDeque" ∧ Fld Z h b "java/util/ArrayDeque" "elements" "[Ljava/lang/Object;" (.ref ea) ∧ Fld Z h b "java/util/ArrayDeque" "head" "I" (.int 0) ∧ Fld Z h b "java/util/ArrayDeque" "tail" "I" (.int 1) ∧ VecR Z h ea "java/lang/Object" [.ref x, .null]) := by
  refine ctr (own := "java/util/ArrayDeque") (nm := "addLast") rfl rfl (Ls := #[.val (.ref b), .val (.ref x), .unset]) (plainFor_of_name pn2) (fun m => by first | (simp [entryFrame, mkF, argsToLocals, Value.category]; done) | rfl) ?_
  intro p e s m below meth c K eh
  have P0 := Keep.refl h0 [b, ea]
  refine Jvm.OwnWp.aloadN K d_jdk_21_method_13_0 rfl rfl (pc' := 1) rfl ?_
  refine nonnullY K d_jdk_21_method_13_1 (pc' := 12) (by decide) (by decide) ?_
  refine Jvm.OwnWp.aloadN K d_jdk_21_method_13_12 rfl rfl (pc' := 13) rfl ?_
  refine Jvm.OwnWp.getf K (wd27 hw) Via.refl Fe d_jdk_21_method_13_13 (pc' := 16) rfl ?_
  refine Jvm.OwnWp.astoreN K d_jdk_21_method_13_16 rfl (Ls' := #[.val (.ref b), .val (.ref x), .val (.ref ea)]) rfl (pc' := 17) rfl ?_
  refine Jvm.OwnWp.aloadN K d_jdk_21_method_13_17 rfl rfl (pc' := 18) rfl ?_
  refine Jvm.OwnWp.aloadN K d_jdk_21_method_13_18 rfl rfl (pc' := 19) rfl ?_
  refine Jvm.OwnWp.getf K (wd70 hw) Via.refl Ft d_jdk_21_method_13_19 (pc' := 22) rfl ?_
  refine Jvm.OwnWp.aloadN K d_jdk_21_method_13_22 rfl rfl (pc' := 23) rfl ?_
  refine aastore K (i := 0) V (Or.inr ⟨x, rfl, Ins.of_exa Xx (wd72 hw)⟩) (by decide) (by simp) ge_ea d_jdk_21_method_13_23 (pc' := 24) rfl ?_
  intro h4 W4
  have F4_elements_b := (Fld.other W4 Fe (Or.inl (Ne.symm ne_ea_b)))
  have F4_head_b := (Fld.other W4 Fh (Or.inl (Ne.symm ne_ea_b)))
  have F4_tail_b := (Fld.other W4 Ft (Or.inl (Ne.symm ne_ea_b)))
  have X4_b := (Exa.wr W4 E)
  have X4_ea := (Exa.wr W4 X)
  have X4_x := (Exa.wr W4 Xx)
  have P4 := (P0.wr W4 (Or.inl (List.mem_of_getElem? (i := 1) rfl)))
  have V4_ea := V.set W4
  refine Jvm.OwnWp.aloadN K d_jdk_21_method_13_24 rfl rfl (pc' := 25) rfl ?_
  refine Jvm.OwnWp.getf K (wd73 hw) Via.refl F4_head_b d_jdk_21_method_13_25 (pc' := 28) rfl ?_
  refine Jvm.OwnWp.aloadN K d_jdk_21_method_13_28 rfl rfl (pc' := 29) rfl ?_
  refine Jvm.OwnWp.aloadN K d_jdk_21_method_13_29 rfl rfl (pc' := 30) rfl ?_
  refine Jvm.OwnWp.getf K (wd70 hw) Via.refl F4_tail_b d_jdk_21_method_13_30 (pc' := 33) rfl ?_
  refine Jvm.OwnWp.aloadN K d_jdk_21_method_13_33 rfl rfl (pc' := 34) rfl ?_
  refine alen K V4_ea.vec d_jdk_21_method_13_34 (pc' := 35) rfl ?_
  show Go _ _ _ _ _ _ _ _ _ _ _ h4 0 0 (mkF m 35 #[.val (.ref b), .val (.ref x), .val (.ref ea)] [(.int (2 : Int32)), (.int (0 : Int32)), (.ref b), (.int (0 : Int32))]) _
  refine callStatic K (y := (⟨"java/util/ArrayDeque", "inc", "(II)I"⟩ : MethodName)) (argsL := [(.int (0 : Int32)), (.int (2 : Int32))]) (S := [(.ref b), (.int (0 : Int32))]) (wd75 hw) (wd76 hw) (wd13 hw) (wd77 hw) (by decide) (c_inc l Z a0 hw [] h4 n0 (Nat.le_trans Z0 P4.1)) (lenOf pd1 rfl) d_jdk_21_method_13_35 rfl (Nat.le_of_ble_eq_true rfl) (Nat.le_of_ble_eq_true rfl) (Nat.le_of_ble_eq_true rfl) (Nat.le_of_ble_eq_true rfl) rfl (pc' := 38) rfl ?_
  rintro v5 h5 ⟨rfl, rfl⟩
  show Go _ _ _ _ _ _ _ _ _ _ _ h4 0 0 (mkF m 38 #[.val (.ref b), .val (.ref x), .val (.ref ea)] [(.int (1 : Int32)), (.ref b), (.int (0 : Int32))]) _
  refine Jvm.OwnWp.dupX1 K d_jdk_21_method_13_38 rfl rfl (pc' := 39) rfl ?_
  refine putf K (wd70 hw) Via.refl F4_tail_b X4_b (Or.inl (wd71 hw)) (wd12 hw) (ty := .int) (by decide) rfl rfl ge_b d_jdk_21_method_13_39 (pc' := 42) rfl ?_
  intro h6 W6
  have F6_elements_b := (Fld.other W6 F4_elements_b (Or.inr (sn_ArrayDeque_elements_tail hw)))
  have F6_head_b := (Fld.other W6 F4_head_b (Or.inr (sn_ArrayDeque_head_tail hw)))
  have X6_b := (Exa.wr W6 X4_b)
  have X6_ea := (Exa.wr W6 X4_ea)
  have X6_x := (Exa.wr W6 X4_x)
  have V6_ea := (V4_ea.other W6 ne_ea_b)
  have P6 := (P4.wr W6 (Or.inl (List.mem_of_getElem? (i := 0) rfl)))
  have F6_tail_b := Fld.same W6 F4_tail_b
  refine icY K d_jdk_21_method_13_42 (by decide) (pc' := 50) (by decide) (by decide) ?_
  refine retV K rfl d_jdk_21_method_13_50 (Nat.le_of_ble_eq_true rfl) (Nat.le_of_ble_eq_true rfl) ?_
  exact ⟨rfl, P6, X6_ea, X6_b, F6_elements_b, F6_head_b, F6_tail_b, V6_ea⟩
set_option maxRecDepth 65536 in
set_option maxHeartbeats 40000000 in
theorem c_addU (l : Launch) (Z : State) (a0 : Array Value) (hw : ∀ d ∈ tables_1, d.before a0 Z = true) (ws : List Jvm.Cond) (b ea x : Addr) (h0 : Heap) (n0 : Nat) (Z0 : n0 ≤ h0.size) (X : Exa Z h0 ea "[Ljava/lang/Object;") (E : Exa Z h0 b "java/util/ArrayDeque") (Fe : Fld Z h0 b "java/util/ArrayDeque" "elements" "[Ljava/lang/Object;" (.ref ea)) (Fh : Fld Z h0 b "java/util/ArrayDeque" "head" "I" (.int 0)) (Ft : Fld Z h0 b "java/util/ArrayDeque" "tail" "I" (.int 0)) (V : VecR Z h0 ea "java/lang/Object" (List.replicate 2 .null)) (Xx : Exa Z h0 x "com/example/adaptive_mirror/adaptivemirror/net/InFlight$Flush") (ge_b : n0 ≤ b) (ge_ea : n0 ≤ ea) (ne_ea_b : ea ≠ b) (ne_x_ea : x ≠ ea) (ne_x_b : x ≠ b) :
    Ctr l Z (⟨"java/util/ArrayDeque", "add", "(Ljava/lang/Object;)Z"⟩ : MethodName) jdk_21_method_28_code 2 (some .boolean) ws ({ frames := 2, cells := 0, slots := 0, locals := 29 } : Room) n0 #[(.ref b), (.ref x)] h0 (fun v h => v = some (.int 1) ∧ Keep h0 h [b, ea] ∧ Exa Z h ea "[Ljava/lang/Object;" ∧ Exa Z h b "java/util/ArrayDeque" ∧ Fld Z h b "java/util/ArrayDeque" "elements" "[Ljava/lang/Object;" (.ref ea) ∧ Fld Z h b "java/util/ArrayDeque" "head" "I" (.int 0) ∧ Fld Z h b "java/util/ArrayDeque" "tail" "I" (.int 1) ∧ VecR Z h ea "java/lang/Object" [.ref x, .null]) := by
  refine ctr (own := "java/util/ArrayDeque") (nm := "add") rfl rfl (Ls := #[.val (.ref b), .val (.ref x)]) (plainFor_of_name pn2) (fun m => by first | (simp [entryFrame, mkF, argsToLocals, Value.category]; done) | rfl) ?_
  intro p e s m below meth c K eh
  have P0 := Keep.refl h0 [b, ea]
  refine Jvm.OwnWp.aloadN K d_jdk_21_method_28_0 rfl rfl (pc' := 1) rfl ?_
  refine Jvm.OwnWp.aloadN K d_jdk_21_method_28_1 rfl rfl (pc' := 2) rfl ?_
  refine callVirt K (y := (⟨"java/util/ArrayDeque", "addLast", "(Ljava/lang/Object;)V"⟩ : MethodName)) (b := b) (argsL := [(.ref x)]) (S := []) (wd65 hw) (wd66 hw) (wd68 hw) (wd67 hw) (wd13 hw) (wd69 hw) (by decide) E (c_addlU l Z a0 hw [] b ea x h0 n0 Z0 X E Fe Fh Ft V Xx ge_b ge_ea ne_ea_b ne_x_ea ne_x_b) (lenOf pd2 rfl) d_jdk_21_method_28_2 rfl (Nat.le_of_ble_eq_true rfl) (Nat.le_of_ble_eq_true rfl) (Nat.le_of_ble_eq_true rfl) (Nat.le_of_ble_eq_true rfl) rfl (pc' := 5) rfl ?_
  rintro v7 h7 ⟨rfl, K7, Q7_X, Q7_E, Q7_Fe, Q7_Fh, Q7_Ft, Q7_V⟩
  have X7_b := (Exa.keep E K7)
  have X7_ea := (Exa.keep X K7)
  have X7_x := (Exa.keep Xx K7)
  have P7 := (P0.trans K7 (allS (Or.inl (List.mem_of_getElem? (i := 0) rfl)) (allS (Or.inl (List.mem_of_getElem? (i := 1) rfl)) (all0))))
  show Go _ _ _ _ _ _ _ _ _ _ _ h7 0 0 (mkF m 5 #[.val (.ref b), .val (.ref x)] []) _
  refine Jvm.OwnWp.iconst K (1 : Int32) d_jdk_21_method_28_5 (by decide) (pc' := 6) rfl ?_
  refine retB K (t := .boolean) rfl (by simp) d_jdk_21_method_28_6 (Nat.le_of_ble_eq_true rfl) (Nat.le_of_ble_eq_true rfl) ?_
  exact ⟨rfl, P7, Q7_X, Q7_E, Q7_Fe, Q7_Fh, Q7_Ft, Q7_V⟩
set_option maxRecDepth 65536 in
set_option maxHeartbeats 40000000 in
theorem c_addlA (l : Launch) (Z : State) (a0 : Array Value) (hw : ∀ d ∈ tables_1, d.before a0 Z = true) (ws : List Jvm.Cond) (b ea x : Addr) (h0 : Heap) (n0 : Nat) (Z0 : n0 ≤ h0.size) (X : Exa Z h0 ea "[Ljava/lang/Object;") (E : Exa Z h0 b "java/util/ArrayDeque") (Fe : Fld Z h0 b "java/util/ArrayDeque" "elements" "[Ljava/lang/Object;" (.ref ea)) (Fh : Fld Z h0 b "java/util/ArrayDeque" "head" "I" (.int 0)) (Ft : Fld Z h0 b "java/util/ArrayDeque" "tail" "I" (.int 0)) (V : VecR Z h0 ea "java/lang/Object" (List.replicate 2 .null)) (Xx : Exa Z h0 x "com/example/adaptive_mirror/adaptivemirror/net/InFlight$Frame") (ge_b : n0 ≤ b) (ge_ea : n0 ≤ ea) (ne_ea_b : ea ≠ b) (ne_x_ea : x ≠ ea) (ne_x_b : x ≠ b) :
    Ctr l Z (⟨"java/util/ArrayDeque", "addLast", "(Ljava/lang/Object;)V"⟩ : MethodName) jdk_21_method_13_code 3 none ws ({ frames := 1, cells := 0, slots := 0, locals := 15 } : Room) n0 #[(.ref b), (.ref x)] h0 (fun v h => v = none ∧ Keep h0 h [b, ea] ∧ Exa Z h ea "[Ljava/lang/Object;" ∧ Exa Z h b "java/util/ArrayDeque" ∧ Fld Z h b "java/util/ArrayDeque" "elements" "[Ljava/lang/Object;" (.ref ea) ∧ Fld Z h b "java/util/ArrayDeque" "head" "I" (.int 0) ∧ Fld Z h b "java/util/ArrayDeque" "tail" "I" (.int 1) ∧ VecR Z h ea "java/lang/Object" [.ref x, .null]) := by
  refine ctr (own := "java/util/ArrayDeque") (nm := "addLast") rfl rfl (Ls := #[.val (.ref b), .val (.ref x), .unset]) (plainFor_of_name pn2) (fun m => by first | (simp [entryFrame, mkF, argsToLocals, Value.category]; done) | rfl) ?_
  intro p e s m below meth c K eh
  have P0 := Keep.refl h0 [b, ea]
  refine Jvm.OwnWp.aloadN K d_jdk_21_method_13_0 rfl rfl (pc' := 1) rfl ?_
  refine nonnullY K d_jdk_21_method_13_1 (pc' := 12) (by decide) (by decide) ?_
  refine Jvm.OwnWp.aloadN K d_jdk_21_method_13_12 rfl rfl (pc' := 13) rfl ?_
  refine Jvm.OwnWp.getf K (wd27 hw) Via.refl Fe d_jdk_21_method_13_13 (pc' := 16) rfl ?_
  refine Jvm.OwnWp.astoreN K d_jdk_21_method_13_16 rfl (Ls' := #[.val (.ref b), .val (.ref x), .val (.ref ea)]) rfl (pc' := 17) rfl ?_
  refine Jvm.OwnWp.aloadN K d_jdk_21_method_13_17 rfl rfl (pc' := 18) rfl ?_
  refine Jvm.OwnWp.aloadN K d_jdk_21_method_13_18 rfl rfl (pc' := 19) rfl ?_
  refine Jvm.OwnWp.getf K (wd70 hw) Via.refl Ft d_jdk_21_method_13_19 (pc' := 22) rfl ?_
  refine Jvm.OwnWp.aloadN K d_jdk_21_method_13_22 rfl rfl (pc' := 23) rfl ?_
  refine aastore K (i := 0) V (Or.inr ⟨x, rfl, Ins.of_exa Xx (wd118 hw)⟩) (by decide) (by simp) ge_ea d_jdk_21_method_13_23 (pc' := 24) rfl ?_
  intro h8 W8
  have F8_elements_b := (Fld.other W8 Fe (Or.inl (Ne.symm ne_ea_b)))
  have F8_head_b := (Fld.other W8 Fh (Or.inl (Ne.symm ne_ea_b)))
  have F8_tail_b := (Fld.other W8 Ft (Or.inl (Ne.symm ne_ea_b)))
  have X8_b := (Exa.wr W8 E)
  have X8_ea := (Exa.wr W8 X)
  have X8_x := (Exa.wr W8 Xx)
  have P8 := (P0.wr W8 (Or.inl (List.mem_of_getElem? (i := 1) rfl)))
  have V8_ea := V.set W8
  refine Jvm.OwnWp.aloadN K d_jdk_21_method_13_24 rfl rfl (pc' := 25) rfl ?_
  refine Jvm.OwnWp.getf K (wd73 hw) Via.refl F8_head_b d_jdk_21_method_13_25 (pc' := 28) rfl ?_
  refine Jvm.OwnWp.aloadN K d_jdk_21_method_13_28 rfl rfl (pc' := 29) rfl ?_
  refine Jvm.OwnWp.aloadN K d_jdk_21_method_13_29 rfl rfl (pc' := 30) rfl ?_
  refine Jvm.OwnWp.getf K (wd70 hw) Via.refl F8_tail_b d_jdk_21_method_13_30 (pc' := 33) rfl ?_
  refine Jvm.OwnWp.aloadN K d_jdk_21_method_13_33 rfl rfl (pc' := 34) rfl ?_
  refine alen K V8_ea.vec d_jdk_21_method_13_34 (pc' := 35) rfl ?_
  show Go _ _ _ _ _ _ _ _ _ _ _ h8 0 0 (mkF m 35 #[.val (.ref b), .val (.ref x), .val (.ref ea)] [(.int (2 : Int32)), (.int (0 : Int32)), (.ref b), (.int (0 : Int32))]) _
  refine callStatic K (y := (⟨"java/util/ArrayDeque", "inc", "(II)I"⟩ : MethodName)) (argsL := [(.int (0 : Int32)), (.int (2 : Int32))]) (S := [(.ref b), (.int (0 : Int32))]) (wd75 hw) (wd76 hw) (wd13 hw) (wd77 hw) (by decide) (c_inc l Z a0 hw [] h8 n0 (Nat.le_trans Z0 P8.1)) (lenOf pd1 rfl) d_jdk_21_method_13_35 rfl (Nat.le_of_ble_eq_true rfl) (Nat.le_of_ble_eq_true rfl) (Nat.le_of_ble_eq_true rfl) (Nat.le_of_ble_eq_true rfl) rfl (pc' := 38) rfl ?_
  rintro v9 h9 ⟨rfl, rfl⟩
  show Go _ _ _ _ _ _ _ _ _ _ _ h8 0 0 (mkF m 38 #[.val (.ref b), .val (.ref x), .val (.ref ea)] [(.int (1 : Int32)), (.ref b), (.int (0 : Int32))]) _
  refine Jvm.OwnWp.dupX1 K d_jdk_21_method_13_38 rfl rfl (pc' := 39) rfl ?_
  refine putf K (wd70 hw) Via.refl F8_tail_b X8_b (Or.inl (wd71 hw)) (wd12 hw) (ty := .int) (by decide) rfl rfl ge_b d_jdk_21_method_13_39 (pc' := 42) rfl ?_
  intro h10 W10
  have F10_elements_b := (Fld.other W10 F8_elements_b (Or.inr (sn_ArrayDeque_elements_tail hw)))
  have F10_head_b := (Fld.other W10 F8_head_b (Or.inr (sn_ArrayDeque_head_tail hw)))
  have X10_b := (Exa.wr W10 X8_b)
  have X10_ea := (Exa.wr W10 X8_ea)
  have X10_x := (Exa.wr W10 X8_x)
  have V10_ea := (V8_ea.other W10 ne_ea_b)
  have P10 := (P8.wr W10 (Or.inl (List.mem_of_getElem? (i := 0) rfl)))
  have F10_tail_b := Fld.same W10 F8_tail_b
  refine icY K d_jdk_21_method_13_42 (by decide) (pc' := 50) (by decide) (by decide) ?_
  refine retV K rfl d_jdk_21_method_13_50 (Nat.le_of_ble_eq_true rfl) (Nat.le_of_ble_eq_true rfl) ?_
  exact ⟨rfl, P10, X10_ea, X10_b, F10_elements_b, F10_head_b, F10_tail_b, V10_ea⟩
set_option maxRecDepth 65536 in
set_option maxHeartbeats 40000000 in
theorem c_addA (l : Launch) (Z : State) (a0 : Array Value) (hw : ∀ d ∈ tables_1, d.before a0 Z = true) (ws : List Jvm.Cond) (b ea x : Addr) (h0 : Heap) (n0 : Nat) (Z0 : n0 ≤ h0.size) (X : Exa Z h0 ea "[Ljava/lang/Object;") (E : Exa Z h0 b "java/util/ArrayDeque") (Fe : Fld Z h0 b "java/util/ArrayDeque" "elements" "[Ljava/lang/Object;" (.ref ea)) (Fh : Fld Z h0 b "java/util/ArrayDeque" "head" "I" (.int 0)) (Ft : Fld Z h0 b "java/util/ArrayDeque" "tail" "I" (.int 0)) (V : VecR Z h0 ea "java/lang/Object" (List.replicate 2 .null)) (Xx : Exa Z h0 x "com/example/adaptive_mirror/adaptivemirror/net/InFlight$Frame") (ge_b : n0 ≤ b) (ge_ea : n0 ≤ ea) (ne_ea_b : ea ≠ b) (ne_x_ea : x ≠ ea) (ne_x_b : x ≠ b) :
    Ctr l Z (⟨"java/util/ArrayDeque", "add", "(Ljava/lang/Object;)Z"⟩ : MethodName) jdk_21_method_28_code 2 (some .boolean) ws ({ frames := 2, cells := 0, slots := 0, locals := 29 } : Room) n0 #[(.ref b), (.ref x)] h0 (fun v h => v = some (.int 1) ∧ Keep h0 h [b, ea] ∧ Exa Z h ea "[Ljava/lang/Object;" ∧ Exa Z h b "java/util/ArrayDeque" ∧ Fld Z h b "java/util/ArrayDeque" "elements" "[Ljava/lang/Object;" (.ref ea) ∧ Fld Z h b "java/util/ArrayDeque" "head" "I" (.int 0) ∧ Fld Z h b "java/util/ArrayDeque" "tail" "I" (.int 1) ∧ VecR Z h ea "java/lang/Object" [.ref x, .null]) := by
  refine ctr (own := "java/util/ArrayDeque") (nm := "add") rfl rfl (Ls := #[.val (.ref b), .val (.ref x)]) (plainFor_of_name pn2) (fun m => by first | (simp [entryFrame, mkF, argsToLocals, Value.category]; done) | rfl) ?_
  intro p e s m below meth c K eh
  have P0 := Keep.refl h0 [b, ea]
  refine Jvm.OwnWp.aloadN K d_jdk_21_method_28_0 rfl rfl (pc' := 1) rfl ?_
  refine Jvm.OwnWp.aloadN K d_jdk_21_method_28_1 rfl rfl (pc' := 2) rfl ?_
  refine callVirt K (y := (⟨"java/util/ArrayDeque", "addLast", "(Ljava/lang/Object;)V"⟩ : MethodName)) (b := b) (argsL := [(.ref x)]) (S := []) (wd65 hw) (wd66 hw) (wd68 hw) (wd67 hw) (wd13 hw) (wd69 hw) (by decide) E (c_addlA l Z a0 hw [] b ea x h0 n0 Z0 X E Fe Fh Ft V Xx ge_b ge_ea ne_ea_b ne_x_ea ne_x_b) (lenOf pd2 rfl) d_jdk_21_method_28_2 rfl (Nat.le_of_ble_eq_true rfl) (Nat.le_of_ble_eq_true rfl) (Nat.le_of_ble_eq_true rfl) (Nat.le_of_ble_eq_true rfl) rfl (pc' := 5) rfl ?_
  rintro v11 h11 ⟨rfl, K11, Q11_X, Q11_E, Q11_Fe, Q11_Fh, Q11_Ft, Q11_V⟩
  have X11_b := (Exa.keep E K11)
  have X11_ea := (Exa.keep X K11)
  have X11_x := (Exa.keep Xx K11)
  have P11 := (P0.trans K11 (allS (Or.inl (List.mem_of_getElem? (i := 0) rfl)) (allS (Or.inl (List.mem_of_getElem? (i := 1) rfl)) (all0))))
  show Go _ _ _ _ _ _ _ _ _ _ _ h11 0 0 (mkF m 5 #[.val (.ref b), .val (.ref x)] []) _
  refine Jvm.OwnWp.iconst K (1 : Int32) d_jdk_21_method_28_5 (by decide) (pc' := 6) rfl ?_
  refine retB K (t := .boolean) rfl (by simp) d_jdk_21_method_28_6 (Nat.le_of_ble_eq_true rfl) (Nat.le_of_ble_eq_true rfl) ?_
  exact ⟨rfl, P11, Q11_X, Q11_E, Q11_Fe, Q11_Fh, Q11_Ft, Q11_V⟩
set_option maxRecDepth 65536 in
set_option maxHeartbeats 40000000 in
theorem c_demp (l : Launch) (Z : State) (a0 : Array Value) (hw : ∀ d ∈ tables_1, d.before a0 Z = true) (ws : List Jvm.Cond) (b : Addr) (x y : Int32) (h0 : Heap) (n0 : Nat) (Z0 : n0 ≤ h0.size) (Fh : Fld Z h0 b "java/util/ArrayDeque" "head" "I" (.int x)) (Ft : Fld Z h0 b "java/util/ArrayDeque" "tail" "I" (.int y)) :
    Ctr l Z (⟨"java/util/ArrayDeque", "isEmpty", "()Z"⟩ : MethodName) jdk_21_method_38_code 1 (some .boolean) ws ({ frames := 0, cells := 0, slots := 0, locals := 0 } : Room) n0 #[(.ref b)] h0 (fun v h => v = some (.int (if x = y then 1 else 0)) ∧ h0 = h) := by
  refine ctr (own := "java/util/ArrayDeque") (nm := "isEmpty") rfl rfl (Ls := #[.val (.ref b)]) (plainFor_of_name pn2) (fun m => by first | (simp [entryFrame, mkF, argsToLocals, Value.category]; done) | rfl) ?_
  intro p e s m below meth c K eh
  refine Jvm.OwnWp.aloadN K d_jdk_21_method_38_0 rfl rfl (pc' := 1) rfl ?_
  refine Jvm.OwnWp.getf K (wd73 hw) Via.refl Fh d_jdk_21_method_38_1 (pc' := 4) rfl ?_
  refine Jvm.OwnWp.aloadN K d_jdk_21_method_38_4 rfl rfl (pc' := 5) rfl ?_
  refine Jvm.OwnWp.getf K (wd70 hw) Via.refl Ft d_jdk_21_method_38_5 (pc' := 8) rfl ?_
  by_cases c1 : x = y
  · refine icN K d_jdk_21_method_38_8 (XT.ii_ne_f c1) (pc' := 11) rfl ?_
    refine Jvm.OwnWp.iconst K (1 : Int32) d_jdk_21_method_38_11 (by decide) (pc' := 12) rfl ?_
    refine goto' K d_jdk_21_method_38_12 (pc' := 16) (by decide) (by decide) ?_
    refine retB K (t := .boolean) rfl (by simp) d_jdk_21_method_38_16 (Nat.le_of_ble_eq_true rfl) (Nat.le_of_ble_eq_true rfl) ?_
    exact ⟨by rw [if_pos c1]; rfl, rfl⟩
  · refine icY K d_jdk_21_method_38_8 (XT.ii_ne_t c1) (pc' := 15) (by decide) (by decide) ?_
    refine Jvm.OwnWp.iconst K (0 : Int32) d_jdk_21_method_38_15 (by decide) (pc' := 16) rfl ?_
    refine retB K (t := .boolean) rfl (by simp) d_jdk_21_method_38_16 (Nat.le_of_ble_eq_true rfl) (Nat.le_of_ble_eq_true rfl) ?_
    exact ⟨by rw [if_neg c1]; rfl, rfl⟩
set_option maxRecDepth 65536 in
set_option maxHeartbeats 40000000 in
theorem c_elt (l : Launch) (Z : State) (a0 : Array Value) (hw : ∀ d ∈ tables_1, d.before a0 Z = true) (ws : List Jvm.Cond) (ea x : Addr) (xs : List Value) (h0 : Heap) (n0 : Nat) (Z0 : n0 ≤ h0.size) (hx : xs[0]? = some (.ref x)) (V : VecR Z h0 ea "java/lang/Object" xs) :
    Ctr l Z (⟨"java/util/ArrayDeque", "elementAt", "([Ljava/lang/Object;I)Ljava/lang/Object;"⟩ : MethodName) jdk_21_method_10_code 2 (some (.object "java/lang/Object")) ws ({ frames := 0, cells := 0, slots := 0, locals := 0 } : Room) n0 #[(.ref ea), (.int (0 : Int32))] h0 (fun v h => v = some (.ref x) ∧ h0 = h) := by
  refine ctr (own := "java/util/ArrayDeque") (nm := "elementAt") rfl rfl (Ls := #[.val (.ref ea), .val (.int (0 : Int32))]) (plainFor_of_name pn2) (fun m => by first | (simp [entryFrame, mkF, argsToLocals, Value.category]; done) | rfl) ?_
  intro p e s m below meth c K eh
  refine Jvm.OwnWp.aloadN K d_jdk_21_method_10_0 rfl rfl (pc' := 1) rfl ?_
  refine Jvm.OwnWp.iloadN K d_jdk_21_method_10_1 rfl (pc' := 2) rfl ?_
  refine aaload K (i := 0) V.vec rfl (by decide) hx d_jdk_21_method_10_2 (pc' := 3) rfl ?_
  refine retA K (t := (.object "java/lang/Object")) rfl rfl rfl d_jdk_21_method_10_3 (Nat.le_of_ble_eq_true rfl) (Nat.le_of_ble_eq_true rfl) ?_
  exact ⟨rfl, rfl⟩
set_option maxRecDepth 65536 in
set_option maxHeartbeats 40000000 in
theorem c_pkf (l : Launch) (Z : State) (a0 : Array Value) (hw : ∀ d ∈ tables_1, d.before a0 Z = true) (ws : List Jvm.Cond) (b ea x : Addr) (h0 : Heap) (n0 : Nat) (Z0 : n0 ≤ h0.size) (X : Exa Z h0 ea "[Ljava/lang/Object;") (E : Exa Z h0 b "java/util/ArrayDeque") (Fe : Fld Z h0 b "java/util/ArrayDeque" "elements" "[Ljava/lang/Object;" (.ref ea)) (Fh : Fld Z h0 b "java/util/ArrayDeque" "head" "I" (.int 0)) (Ft : Fld Z h0 b "java/util/ArrayDeque" "tail" "I" (.int 1)) (V : VecR Z h0 ea "java/lang/Object" [.ref x, .null]) :
    Ctr l Z (⟨"java/util/ArrayDeque", "peekFirst", "()Ljava/lang/Object;"⟩ : MethodName) jdk_21_method_24_code 1 (some (.object "java/lang/Object")) ws ({ frames := 1, cells := 0, slots := 0, locals := 13 } : Room) n0 #[(.ref b)] h0 (fun v h => v = some (.ref x) ∧ h0 = h) := by
  refine ctr (own := "java/util/ArrayDeque") (nm := "peekFirst") rfl rfl (Ls := #[.val (.ref b)]) (plainFor_of_name pn2) (fun m => by first | (simp [entryFrame, mkF, argsToLocals, Value.category]; done) | rfl) ?_
  intro p e s m below meth c K eh
  refine Jvm.OwnWp.aloadN K d_jdk_21_method_24_0 rfl rfl (pc' := 1) rfl ?_
  refine Jvm.OwnWp.getf K (wd27 hw) Via.refl Fe d_jdk_21_method_24_1 (pc' := 4) rfl ?_
  refine Jvm.OwnWp.aloadN K d_jdk_21_method_24_4 rfl rfl (pc' := 5) rfl ?_
  refine Jvm.OwnWp.getf K (wd73 hw) Via.refl Fh d_jdk_21_method_24_5 (pc' := 8) rfl ?_
  refine callStatic K (y := (⟨"java/util/ArrayDeque", "elementAt", "([Ljava/lang/Object;I)Ljava/lang/Object;"⟩ : MethodName)) (argsL := [(.ref ea), (.int (0 : Int32))]) (S := []) (wd145 hw) (wd146 hw) (wd13 hw) (wd147 hw) (by decide) (c_elt l Z a0 hw [] ea x [.ref x, .null] h0 n0 Z0 rfl V) (lenOf pd3 rfl) d_jdk_21_method_24_8 rfl (Nat.le_of_ble_eq_true rfl) (Nat.le_of_ble_eq_true rfl) (Nat.le_of_ble_eq_true rfl) (Nat.le_of_ble_eq_true rfl) rfl (pc' := 11) rfl ?_
  rintro v12 h12 ⟨rfl, rfl⟩
  show Go _ _ _ _ _ _ _ _ _ _ _ h0 0 0 (mkF m 11 #[.val (.ref b)] [(.ref x)]) _
  refine retA K (t := (.object "java/lang/Object")) rfl rfl rfl d_jdk_21_method_24_11 (Nat.le_of_ble_eq_true rfl) (Nat.le_of_ble_eq_true rfl) ?_
  exact ⟨rfl, rfl⟩
set_option maxRecDepth 65536 in
set_option maxHeartbeats 40000000 in
theorem c_pk (l : Launch) (Z : State) (a0 : Array Value) (hw : ∀ d ∈ tables_1, d.before a0 Z = true) (ws : List Jvm.Cond) (b ea x : Addr) (h0 : Heap) (n0 : Nat) (Z0 : n0 ≤ h0.size) (X : Exa Z h0 ea "[Ljava/lang/Object;") (E : Exa Z h0 b "java/util/ArrayDeque") (Fe : Fld Z h0 b "java/util/ArrayDeque" "elements" "[Ljava/lang/Object;" (.ref ea)) (Fh : Fld Z h0 b "java/util/ArrayDeque" "head" "I" (.int 0)) (Ft : Fld Z h0 b "java/util/ArrayDeque" "tail" "I" (.int 1)) (V : VecR Z h0 ea "java/lang/Object" [.ref x, .null]) :
    Ctr l Z (⟨"java/util/ArrayDeque", "peek", "()Ljava/lang/Object;"⟩ : MethodName) jdk_21_method_33_code 1 (some (.object "java/lang/Object")) ws ({ frames := 2, cells := 0, slots := 0, locals := 25 } : Room) n0 #[(.ref b)] h0 (fun v h => v = some (.ref x) ∧ h0 = h) := by
  refine ctr (own := "java/util/ArrayDeque") (nm := "peek") rfl rfl (Ls := #[.val (.ref b)]) (plainFor_of_name pn2) (fun m => by first | (simp [entryFrame, mkF, argsToLocals, Value.category]; done) | rfl) ?_
  intro p e s m below meth c K eh
  refine Jvm.OwnWp.aloadN K d_jdk_21_method_33_0 rfl rfl (pc' := 1) rfl ?_
  refine callVirt K (y := (⟨"java/util/ArrayDeque", "peekFirst", "()Ljava/lang/Object;"⟩ : MethodName)) (b := b) (argsL := []) (S := []) (wd140 hw) (wd141 hw) (wd143 hw) (wd142 hw) (wd13 hw) (wd144 hw) (by decide) E (c_pkf l Z a0 hw [] b ea x h0 n0 Z0 X E Fe Fh Ft V) (lenOf pd4 rfl) d_jdk_21_method_33_1 rfl (Nat.le_of_ble_eq_true rfl) (Nat.le_of_ble_eq_true rfl) (Nat.le_of_ble_eq_true rfl) (Nat.le_of_ble_eq_true rfl) rfl (pc' := 4) rfl ?_
  rintro v13 h13 ⟨rfl, rfl⟩
  show Go _ _ _ _ _ _ _ _ _ _ _ h0 0 0 (mkF m 4 #[.val (.ref b)] [(.ref x)]) _
  refine retA K (t := (.object "java/lang/Object")) rfl rfl rfl d_jdk_21_method_33_4 (Nat.le_of_ble_eq_true rfl) (Nat.le_of_ble_eq_true rfl) ?_
  exact ⟨rfl, rfl⟩
set_option maxRecDepth 65536 in
set_option maxHeartbeats 40000000 in
theorem c_pol (l : Launch) (Z : State) (a0 : Array Value) (hw : ∀ d ∈ tables_1, d.before a0 Z = true) (ws : List Jvm.Cond) (b ea x : Addr) (h0 : Heap) (n0 : Nat) (Z0 : n0 ≤ h0.size) (X : Exa Z h0 ea "[Ljava/lang/Object;") (E : Exa Z h0 b "java/util/ArrayDeque") (Fe : Fld Z h0 b "java/util/ArrayDeque" "elements" "[Ljava/lang/Object;" (.ref ea)) (Fh : Fld Z h0 b "java/util/ArrayDeque" "head" "I" (.int 0)) (Ft : Fld Z h0 b "java/util/ArrayDeque" "tail" "I" (.int 1)) (V : VecR Z h0 ea "java/lang/Object" [.ref x, .null]) (ge_b : n0 ≤ b) (ge_ea : n0 ≤ ea) (ne_ea_b : ea ≠ b) :
    Ctr l Z (⟨"java/util/ArrayDeque", "pollFirst", "()Ljava/lang/Object;"⟩ : MethodName) jdk_21_method_20_code 4 (some (.object "java/lang/Object")) ws ({ frames := 1, cells := 0, slots := 0, locals := 14 } : Room) n0 #[(.ref b)] h0 (fun v h => v = some (.ref x) ∧ Keep h0 h [b, ea] ∧ Exa Z h ea "[Ljava/lang/Object;" ∧ Exa Z h b "java/util/ArrayDeque" ∧ Fld Z h b "java/util/ArrayDeque" "elements" "[Ljava/lang/Object;" (.ref ea) ∧ Fld Z h b "java/util/ArrayDeque" "head" "I" (.int 1) ∧ Fld Z h b "java/util/ArrayDeque" "tail" "I" (.int 1) ∧ VecR Z h ea "java/lang/Object" [.null, .null]) := by
  refine ctr (own := "java/util/ArrayDeque") (nm := "pollFirst") rfl rfl (Ls := #[.val (.ref b), .unset, .unset, .unset]) (plainFor_of_name pn2) (fun m => by first | (simp [entryFrame, mkF, argsToLocals, Value.category]; done) | rfl) ?_
  intro p e s m below meth c K eh
  have P0 := Keep.refl h0 [b, ea]
  refine Jvm.OwnWp.aloadN K d_jdk_21_method_20_0 rfl rfl (pc' := 1) rfl ?_
  refine Jvm.OwnWp.getf K (wd27 hw) Via.refl Fe d_jdk_21_method_20_1 (pc' := 4) rfl ?_
  refine Jvm.OwnWp.dup K d_jdk_21_method_20_4 rfl (pc' := 5) rfl ?_
  refine Jvm.OwnWp.astoreN K d_jdk_21_method_20_5 rfl (Ls' := #[.val (.ref b), .val (.ref ea), .unset, .unset]) rfl (pc' := 6) rfl ?_
  refine Jvm.OwnWp.aloadN K d_jdk_21_method_20_6 rfl rfl (pc' := 7) rfl ?_
  refine Jvm.OwnWp.getf K (wd73 hw) Via.refl Fh d_jdk_21_method_20_7 (pc' := 10) rfl ?_
  refine Jvm.OwnWp.dup K d_jdk_21_method_20_10 rfl (pc' := 11) rfl ?_
  refine Jvm.OwnWp.istoreN K d_jdk_21_method_20_11 (Ls' := #[.val (.ref b), .val (.ref ea), .val (.int (0 : Int32)), .unset]) rfl (pc' := 12) rfl ?_
  refine callStatic K (y := (⟨"java/util/ArrayDeque", "elementAt", "([Ljava/lang/Object;I)Ljava/lang/Object;"⟩ : MethodName)) (argsL := [(.ref ea), (.int (0 : Int32))]) (S := []) (wd145 hw) (wd146 hw) (wd13 hw) (wd147 hw) (by decide) (c_elt l Z a0 hw [] ea x [.ref x, .null] h0 n0 Z0 rfl V) (lenOf pd3 rfl) d_jdk_21_method_20_12 rfl (Nat.le_of_ble_eq_true rfl) (Nat.le_of_ble_eq_true rfl) (Nat.le_of_ble_eq_true rfl) (Nat.le_of_ble_eq_true rfl) rfl (pc' := 15) rfl ?_
  rintro v14 h14 ⟨rfl, rfl⟩
  show Go _ _ _ _ _ _ _ _ _ _ _ h0 0 0 (mkF m 15 #[.val (.ref b), .val (.ref ea), .val (.int (0 : Int32)), .unset] [(.ref x)]) _
  refine Jvm.OwnWp.astoreN K d_jdk_21_method_20_15 rfl (Ls' := #[.val (.ref b), .val (.ref ea), .val (.int (0 : Int32)), .val (.ref x)]) rfl (pc' := 16) rfl ?_
  refine Jvm.OwnWp.aloadN K d_jdk_21_method_20_16 rfl rfl (pc' := 17) rfl ?_
  refine nullN K d_jdk_21_method_20_17 (pc' := 20) rfl ?_
  refine Jvm.OwnWp.aloadN K d_jdk_21_method_20_20 rfl rfl (pc' := 21) rfl ?_
  refine Jvm.OwnWp.iloadN K d_jdk_21_method_20_21 rfl (pc' := 22) rfl ?_
  refine Jvm.OwnWp.anull K d_jdk_21_method_20_22 (pc' := 23) rfl ?_
  refine aastore K (i := 0) V (Or.inl rfl) (by decide) (by simp) ge_ea d_jdk_21_method_20_23 (pc' := 24) rfl ?_
  intro h15 W15
  have F15_elements_b := (Fld.other W15 Fe (Or.inl (Ne.symm ne_ea_b)))
  have F15_head_b := (Fld.other W15 Fh (Or.inl (Ne.symm ne_ea_b)))
  have F15_tail_b := (Fld.other W15 Ft (Or.inl (Ne.symm ne_ea_b)))
  have X15_b := (Exa.wr W15 E)
  have X15_ea := (Exa.wr W15 X)
  have P15 := (P0.wr W15 (Or.inl (List.mem_of_getElem? (i := 1) rfl)))
  have V15_ea := V.set W15
  refine Jvm.OwnWp.aloadN K d_jdk_21_method_20_24 rfl rfl (pc' := 25) rfl ?_
  refine Jvm.OwnWp.iloadN K d_jdk_21_method_20_25 rfl (pc' := 26) rfl ?_
  refine Jvm.OwnWp.aloadN K d_jdk_21_method_20_26 rfl rfl (pc' := 27) rfl ?_
  refine alen K V15_ea.vec d_jdk_21_method_20_27 (pc' := 28) rfl ?_
  show Go _ _ _ _ _ _ _ _ _ _ _ h15 0 0 (mkF m 28 #[.val (.ref b), .val (.ref ea), .val (.int (0 : Int32)), .val (.ref x)] [(.int (2 : Int32)), (.int (0 : Int32)), (.ref b)]) _
  refine callStatic K (y := (⟨"java/util/ArrayDeque", "inc", "(II)I"⟩ : MethodName)) (argsL := [(.int (0 : Int32)), (.int (2 : Int32))]) (S := [(.ref b)]) (wd75 hw) (wd76 hw) (wd13 hw) (wd77 hw) (by decide) (c_inc l Z a0 hw [] h15 n0 (Nat.le_trans Z0 P15.1)) (lenOf pd1 rfl) d_jdk_21_method_20_28 rfl (Nat.le_of_ble_eq_true rfl) (Nat.le_of_ble_eq_true rfl) (Nat.le_of_ble_eq_true rfl) (Nat.le_of_ble_eq_true rfl) rfl (pc' := 31) rfl ?_
  rintro v16 h16 ⟨rfl, rfl⟩
  show Go _ _ _ _ _ _ _ _ _ _ _ h15 0 0 (mkF m 31 #[.val (.ref b), .val (.ref ea), .val (.int (0 : Int32)), .val (.ref x)] [(.int (1 : Int32)), (.ref b)]) _
  refine putf K (wd73 hw) Via.refl F15_head_b X15_b (Or.inl (wd74 hw)) (wd12 hw) (ty := .int) (by decide) rfl rfl ge_b d_jdk_21_method_20_31 (pc' := 34) rfl ?_
  intro h17 W17
  have F17_elements_b := (Fld.other W17 F15_elements_b (Or.inr (sn_ArrayDeque_elements_head hw)))
  have F17_tail_b := (Fld.other W17 F15_tail_b (Or.inr (sn_ArrayDeque_tail_head hw)))
  have X17_b := (Exa.wr W17 X15_b)
  have X17_ea := (Exa.wr W17 X15_ea)
  have V17_ea := (V15_ea.other W17 ne_ea_b)
  have P17 := (P15.wr W17 (Or.inl (List.mem_of_getElem? (i := 0) rfl)))
  have F17_head_b := Fld.same W17 F15_head_b
  refine Jvm.OwnWp.aloadN K d_jdk_21_method_20_34 rfl rfl (pc' := 35) rfl ?_
  refine retA K (t := (.object "java/lang/Object")) rfl rfl rfl d_jdk_21_method_20_35 (Nat.le_of_ble_eq_true rfl) (Nat.le_of_ble_eq_true rfl) ?_
  exact ⟨rfl, P17, X17_ea, X17_b, F17_elements_b, F17_head_b, F17_tail_b, V17_ea⟩
set_option maxRecDepth 65536 in
set_option maxHeartbeats 40000000 in
theorem c_rmf (l : Launch) (Z : State) (a0 : Array Value) (hw : ∀ d ∈ tables_1, d.before a0 Z = true) (ws : List Jvm.Cond) (b ea x : Addr) (h0 : Heap) (n0 : Nat) (Z0 : n0 ≤ h0.size) (X : Exa Z h0 ea "[Ljava/lang/Object;") (E : Exa Z h0 b "java/util/ArrayDeque") (Fe : Fld Z h0 b "java/util/ArrayDeque" "elements" "[Ljava/lang/Object;" (.ref ea)) (Fh : Fld Z h0 b "java/util/ArrayDeque" "head" "I" (.int 0)) (Ft : Fld Z h0 b "java/util/ArrayDeque" "tail" "I" (.int 1)) (V : VecR Z h0 ea "java/lang/Object" [.ref x, .null]) (ge_b : n0 ≤ b) (ge_ea : n0 ≤ ea) (ne_ea_b : ea ≠ b) :
    Ctr l Z (⟨"java/util/ArrayDeque", "removeFirst", "()Ljava/lang/Object;"⟩ : MethodName) jdk_21_method_18_code 2 (some (.object "java/lang/Object")) ws ({ frames := 2, cells := 0, slots := 0, locals := 29 } : Room) n0 #[(.ref b)] h0 (fun v h => v = some (.ref x) ∧ Keep h0 h [b, ea] ∧ Exa Z h ea "[Ljava/lang/Object;" ∧ Exa Z h b "java/util/ArrayDeque" ∧ Fld Z h b "java/util/ArrayDeque" "elements" "[Ljava/lang/Object;" (.ref ea) ∧ Fld Z h b "java/util/ArrayDeque" "head" "I" (.int 1) ∧ Fld Z h b "java/util/ArrayDeque" "tail" "I" (.int 1) ∧ VecR Z h ea "java/lang/Object" [.null, .null]) := by
  refine ctr (own := "java/util/ArrayDeque") (nm := "removeFirst") rfl rfl (Ls := #[.val (.ref b), .unset]) (plainFor_of_name pn2) (fun m => by first | (simp [entryFrame, mkF, argsToLocals, Value.category]; done) | rfl) ?_
  intro p e s m below meth c K eh
  have P0 := Keep.refl h0 [b, ea]
  refine Jvm.OwnWp.aloadN K d_jdk_21_method_18_0 rfl rfl (pc' := 1) rfl ?_
  refine callVirt K (y := (⟨"java/util/ArrayDeque", "pollFirst", "()Ljava/lang/Object;"⟩ : MethodName)) (b := b) (argsL := []) (S := []) (wd202 hw) (wd203 hw) (wd205 hw) (wd204 hw) (wd13 hw) (wd206 hw) (by decide) E (c_pol l Z a0 hw [] b ea x h0 n0 Z0 X E Fe Fh Ft V ge_b ge_ea ne_ea_b) (lenOf pd4 rfl) d_jdk_21_method_18_1 rfl (Nat.le_of_ble_eq_true rfl) (Nat.le_of_ble_eq_true rfl) (Nat.le_of_ble_eq_true rfl) (Nat.le_of_ble_eq_true rfl) rfl (pc' := 4) rfl ?_
  rintro v18 h18 ⟨rfl, K18, Q18_X, Q18_E, Q18_Fe, Q18_Fh, Q18_Ft, Q18_V⟩
  have X18_b := (Exa.keep E K18)
  have X18_ea := (Exa.keep X K18)
  have P18 := (P0.trans K18 (allS (Or.inl (List.mem_of_getElem? (i := 0) rfl)) (allS (Or.inl (List.mem_of_getElem? (i := 1) rfl)) (all0))))
  show Go _ _ _ _ _ _ _ _ _ _ _ h18 0 0 (mkF m 4 #[.val (.ref b), .unset] [(.ref x)]) _
  refine Jvm.OwnWp.astoreN K d_jdk_21_method_18_4 rfl (Ls' := #[.val (.ref b), .val (.ref x)]) rfl (pc' := 5) rfl ?_
  refine Jvm.OwnWp.aloadN K d_jdk_21_method_18_5 rfl rfl (pc' := 6) rfl ?_
  refine nonnullY K d_jdk_21_method_18_6 (pc' := 17) (by decide) (by decide) ?_
  refine Jvm.OwnWp.aloadN K d_jdk_21_method_18_17 rfl rfl (pc' := 18) rfl ?_
  refine retA K (t := (.object "java/lang/Object")) rfl rfl rfl d_jdk_21_method_18_18 (Nat.le_of_ble_eq_true rfl) (Nat.le_of_ble_eq_true rfl) ?_
  exact ⟨rfl, P18, Q18_X, Q18_E, Q18_Fe, Q18_Fh, Q18_Ft, Q18_V⟩
set_option maxRecDepth 65536 in
set_option maxHeartbeats 40000000 in
theorem c_rm (l : Launch) (Z : State) (a0 : Array Value) (hw : ∀ d ∈ tables_1, d.before a0 Z = true) (ws : List Jvm.Cond) (b ea x : Addr) (h0 : Heap) (n0 : Nat) (Z0 : n0 ≤ h0.size) (X : Exa Z h0 ea "[Ljava/lang/Object;") (E : Exa Z h0 b "java/util/ArrayDeque") (Fe : Fld Z h0 b "java/util/ArrayDeque" "elements" "[Ljava/lang/Object;" (.ref ea)) (Fh : Fld Z h0 b "java/util/ArrayDeque" "head" "I" (.int 0)) (Ft : Fld Z h0 b "java/util/ArrayDeque" "tail" "I" (.int 1)) (V : VecR Z h0 ea "java/lang/Object" [.ref x, .null]) (ge_b : n0 ≤ b) (ge_ea : n0 ≤ ea) (ne_ea_b : ea ≠ b) :
    Ctr l Z (⟨"java/util/ArrayDeque", "remove", "()Ljava/lang/Object;"⟩ : MethodName) jdk_21_method_30_code 1 (some (.object "java/lang/Object")) ws ({ frames := 3, cells := 0, slots := 0, locals := 42 } : Room) n0 #[(.ref b)] h0 (fun v h => v = some (.ref x) ∧ Keep h0 h [b, ea] ∧ Exa Z h ea "[Ljava/lang/Object;" ∧ Exa Z h b "java/util/ArrayDeque" ∧ Fld Z h b "java/util/ArrayDeque" "elements" "[Ljava/lang/Object;" (.ref ea) ∧ Fld Z h b "java/util/ArrayDeque" "head" "I" (.int 1) ∧ Fld Z h b "java/util/ArrayDeque" "tail" "I" (.int 1) ∧ VecR Z h ea "java/lang/Object" [.null, .null]) := by
  refine ctr (own := "java/util/ArrayDeque") (nm := "remove") rfl rfl (Ls := #[.val (.ref b)]) (plainFor_of_name pn2) (fun m => by first | (simp [entryFrame, mkF, argsToLocals, Value.category]; done) | rfl) ?_
  intro p e s m below meth c K eh
  have P0 := Keep.refl h0 [b, ea]
  refine Jvm.OwnWp.aloadN K d_jdk_21_method_30_0 rfl rfl (pc' := 1) rfl ?_
  refine callVirt K (y := (⟨"java/util/ArrayDeque", "removeFirst", "()Ljava/lang/Object;"⟩ : MethodName)) (b := b) (argsL := []) (S := []) (wd197 hw) (wd198 hw) (wd200 hw) (wd199 hw) (wd13 hw) (wd201 hw) (by decide) E (c_rmf l Z a0 hw [] b ea x h0 n0 Z0 X E Fe Fh Ft V ge_b ge_ea ne_ea_b) (lenOf pd4 rfl) d_jdk_21_method_30_1 rfl (Nat.le_of_ble_eq_true rfl) (Nat.le_of_ble_eq_true rfl) (Nat.le_of_ble_eq_true rfl) (Nat.le_of_ble_eq_true rfl) rfl (pc' := 4) rfl ?_
  rintro v19 h19 ⟨rfl, K19, Q19_X, Q19_E, Q19_Fe, Q19_Fh, Q19_Ft, Q19_V⟩
  have X19_b := (Exa.keep E K19)
  have X19_ea := (Exa.keep X K19)
  have P19 := (P0.trans K19 (allS (Or.inl (List.mem_of_getElem? (i := 0) rfl)) (allS (Or.inl (List.mem_of_getElem? (i := 1) rfl)) (all0))))
  show Go _ _ _ _ _ _ _ _ _ _ _ h19 0 0 (mkF m 4 #[.val (.ref b)] [(.ref x)]) _
  refine retA K (t := (.object "java/lang/Object")) rfl rfl rfl d_jdk_21_method_30_4 (Nat.le_of_ble_eq_true rfl) (Nat.le_of_ble_eq_true rfl) ?_
  exact ⟨rfl, P19, Q19_X, Q19_E, Q19_Fe, Q19_Fh, Q19_Ft, Q19_V⟩
set_option maxRecDepth 65536 in
set_option maxHeartbeats 40000000 in
theorem c_max (l : Launch) (Z : State) (a0 : Array Value) (hw : ∀ d ∈ tables_1, d.before a0 Z = true) (ws : List Jvm.Cond) (x y : Int64) (h0 : Heap) (n0 : Nat) (Z0 : n0 ≤ h0.size) :
    Ctr l Z (⟨"java/lang/Math", "max", "(JJ)J"⟩ : MethodName) jdk_29_method_66_code 4 (some .long) ws ({ frames := 0, cells := 0, slots := 0, locals := 0 } : Room) n0 #[(.long x), (.long y)] h0 (fun v h => v = some (.long (if x < y then y else x)) ∧ h0 = h) := by
  refine ctr (own := "java/lang/Math") (nm := "max") rfl rfl (Ls := #[.val (.long x), .second, .val (.long y), .second]) (by decide +kernel) (fun m => by first | (simp [entryFrame, mkF, argsToLocals, Value.category]; done) | rfl) ?_
  intro p e s m below meth c K eh
  refine Jvm.OwnWp.lloadN K d_jdk_29_method_66_0 rfl (pc' := 1) rfl ?_
  refine Jvm.OwnWp.lloadN K d_jdk_29_method_66_1 rfl (pc' := 2) rfl ?_
  refine Jvm.OwnWp.lcmp K d_jdk_29_method_66_2 (pc' := 3) rfl ?_
  by_cases c1 : x < y
  · refine ifY K d_jdk_29_method_66_3 (XT.ll_lt_t c1) (pc' := 10) (by decide) (by decide) ?_
    refine Jvm.OwnWp.lloadN K d_jdk_29_method_66_10 rfl (pc' := 11) rfl ?_
    refine retL K rfl d_jdk_29_method_66_11 (Nat.le_of_ble_eq_true rfl) (Nat.le_of_ble_eq_true rfl) ?_
    exact ⟨by rw [if_pos c1], rfl⟩
  · refine ifN K d_jdk_29_method_66_3 (XT.ll_lt_f c1) (pc' := 6) rfl ?_
    refine Jvm.OwnWp.lloadN K d_jdk_29_method_66_6 rfl (pc' := 7) rfl ?_
    refine goto' K d_jdk_29_method_66_7 (pc' := 11) (by decide) (by decide) ?_
    refine retL K rfl d_jdk_29_method_66_11 (Nat.le_of_ble_eq_true rfl) (Nat.le_of_ble_eq_true rfl) ?_
    exact ⟨by rw [if_neg c1], rfl⟩
set_option maxRecDepth 65536 in
set_option maxHeartbeats 40000000 in
theorem c_min (l : Launch) (Z : State) (a0 : Array Value) (hw : ∀ d ∈ tables_1, d.before a0 Z = true) (ws : List Jvm.Cond) (x y : Int64) (h0 : Heap) (n0 : Nat) (Z0 : n0 ≤ h0.size) :
    Ctr l Z (⟨"java/lang/Math", "min", "(JJ)J"⟩ : MethodName) jdk_29_method_70_code 4 (some .long) ws ({ frames := 0, cells := 0, slots := 0, locals := 0 } : Room) n0 #[(.long x), (.long y)] h0 (fun v h => v = some (.long (if y < x then y else x)) ∧ h0 = h) := by
  refine ctr (own := "java/lang/Math") (nm := "min") rfl rfl (Ls := #[.val (.long x), .second, .val (.long y), .second]) (by decide +kernel) (fun m => by first | (simp [entryFrame, mkF, argsToLocals, Value.category]; done) | rfl) ?_
  intro p e s m below meth c K eh
  refine Jvm.OwnWp.lloadN K d_jdk_29_method_70_0 rfl (pc' := 1) rfl ?_
  refine Jvm.OwnWp.lloadN K d_jdk_29_method_70_1 rfl (pc' := 2) rfl ?_
  refine Jvm.OwnWp.lcmp K d_jdk_29_method_70_2 (pc' := 3) rfl ?_
  by_cases c1 : y < x
  · refine ifY K d_jdk_29_method_70_3 (XT.ll_gt_t c1) (pc' := 10) (by decide) (by decide) ?_
    refine Jvm.OwnWp.lloadN K d_jdk_29_method_70_10 rfl (pc' := 11) rfl ?_
    refine retL K rfl d_jdk_29_method_70_11 (Nat.le_of_ble_eq_true rfl) (Nat.le_of_ble_eq_true rfl) ?_
    exact ⟨by rw [if_pos c1], rfl⟩
  · refine ifN K d_jdk_29_method_70_3 (XT.ll_gt_f c1) (pc' := 6) rfl ?_
    refine Jvm.OwnWp.lloadN K d_jdk_29_method_70_6 rfl (pc' := 7) rfl ?_
    refine goto' K d_jdk_29_method_70_7 (pc' := 11) (by decide) (by decide) ?_
    refine retL K rfl d_jdk_29_method_70_11 (Nat.le_of_ble_eq_true rfl) (Nat.le_of_ble_eq_true rfl) ?_
    exact ⟨by rw [if_neg c1], rfl⟩
set_option maxRecDepth 65536 in
set_option maxHeartbeats 40000000 in
theorem c_flu (l : Launch) (Z : State) (a0 : Array Value) (hw : ∀ d ∈ tables_1, d.before a0 Z = true) (ws : List Jvm.Cond) (b : Addr) (x0 x1 : Int64) (h0 : Heap) (n0 : Nat) (Z0 : n0 ≤ h0.size) (E : Exa Z h0 b "com/example/adaptive_mirror/adaptivemirror/net/InFlight$Flush") (ge_b : n0 ≤ b) (G_end : Fld Z h0 b "com/example/adaptive_mirror/adaptivemirror/net/InFlight$Flush" "end" "J" (.long 0)) (G_at : Fld Z h0 b "com/example/adaptive_mirror/adaptivemirror/net/InFlight$Flush" "at" "J" (.long 0)) :
    Ctr l Z (⟨"com/example/adaptive_mirror/adaptivemirror/net/InFlight$Flush", "<init>", "(JJ)V"⟩ : MethodName) prog_90_method_1_code 5 none ws ({ frames := 2, cells := 0, slots := 0, locals := 24 } : Room) n0 #[(.ref b), (.long x0), (.long x1)] h0 (fun v h => v = none ∧ Keep h0 h [b] ∧ Fld Z h b "com/example/adaptive_mirror/adaptivemirror/net/InFlight$Flush" "end" "J" (.long x0) ∧ Fld Z h b "com/example/adaptive_mirror/adaptivemirror/net/InFlight$Flush" "at" "J" (.long x1)) := by
  refine ctr (own := "com/example/adaptive_mirror/adaptivemirror/net/InFlight$Flush") (nm := "<init>") rfl rfl (Ls := #[.val (.ref b), .val (.long x0), .second, .val (.long x1), .second]) (plainFor_of_name pn3) (fun m => by first | (simp [entryFrame, mkF, argsToLocals, Value.category]; done) | rfl) ?_
  intro p e s m below meth c K eh
  have P0 := Keep.refl h0 [b]
  refine Jvm.OwnWp.aloadN K d_prog_90_method_1_0 rfl rfl (pc' := 1) rfl ?_
  refine callInit K (y := (⟨"java/lang/Record", "<init>", "()V"⟩ : MethodName)) (b := b) (argsL := []) (S := []) rfl (wd46 hw) (wd47 hw) (wd49 hw) (wd50 hw) rfl (by decide) (c_rec l Z a0 hw [] b h0 n0 Z0) (lenOf pd0 rfl) d_prog_90_method_1_1 rfl (Nat.le_of_ble_eq_true rfl) (Nat.le_of_ble_eq_true rfl) (Nat.le_of_ble_eq_true rfl) (Nat.le_of_ble_eq_true rfl) rfl (pc' := 4) rfl ?_
  rintro v20 h20 ⟨rfl, rfl⟩
  show Go _ _ _ _ _ _ _ _ _ _ _ h0 0 0 (mkF m 4 #[.val (.ref b), .val (.long x0), .second, .val (.long x1), .second] []) _
  refine Jvm.OwnWp.aloadN K d_prog_90_method_1_4 rfl rfl (pc' := 5) rfl ?_
  refine Jvm.OwnWp.lloadN K d_prog_90_method_1_5 rfl (pc' := 6) rfl ?_
  refine putf K (wd52 hw) Via.refl G_end E (Or.inr ⟨(wd53 hw), rfl, rfl⟩) (wd41 hw) (ty := .long) (by decide) rfl rfl ge_b d_prog_90_method_1_6 (pc' := 9) rfl ?_
  intro h21 W21
  have F21_at_b := (Fld.other W21 G_at (Or.inr (sn_InFlight_Flush_at_end hw)))
  have X21_b := (Exa.wr W21 E)
  have P21 := (P0.wr W21 (Or.inl (List.mem_of_getElem? (i := 0) rfl)))
  have F21_end_b := Fld.same W21 G_end
  refine Jvm.OwnWp.aloadN K d_prog_90_method_1_9 rfl rfl (pc' := 10) rfl ?_
  refine Jvm.OwnWp.lloadN K d_prog_90_method_1_10 rfl (pc' := 11) rfl ?_
  refine putf K (wd54 hw) Via.refl F21_at_b X21_b (Or.inr ⟨(wd55 hw), rfl, rfl⟩) (wd41 hw) (ty := .long) (by decide) rfl rfl ge_b d_prog_90_method_1_11 (pc' := 14) rfl ?_
  intro h22 W22
  have F22_end_b := (Fld.other W22 F21_end_b (Or.inr (sn_InFlight_Flush_end_at hw)))
  have X22_b := (Exa.wr W22 X21_b)
  have P22 := (P21.wr W22 (Or.inl (List.mem_of_getElem? (i := 0) rfl)))
  have F22_at_b := Fld.same W22 F21_at_b
  refine retV K rfl d_prog_90_method_1_14 (Nat.le_of_ble_eq_true rfl) (Nat.le_of_ble_eq_true rfl) ?_
  exact ⟨rfl, P22, F22_end_b, F22_at_b⟩
set_option maxRecDepth 65536 in
set_option maxHeartbeats 40000000 in
theorem c_flu_end (l : Launch) (Z : State) (a0 : Array Value) (hw : ∀ d ∈ tables_1, d.before a0 Z = true) (ws : List Jvm.Cond) (b : Addr) (x : Int64) (h0 : Heap) (n0 : Nat) (Z0 : n0 ≤ h0.size) (G : Fld Z h0 b "com/example/adaptive_mirror/adaptivemirror/net/InFlight$Flush" "end" "J" (.long x)) :
    Ctr l Z (⟨"com/example/adaptive_mirror/adaptivemirror/net/InFlight$Flush", "end", "()J"⟩ : MethodName) prog_90_method_5_code 1 (some .long) ws ({ frames := 0, cells := 0, slots := 0, locals := 0 } : Room) n0 #[(.ref b)] h0 (fun v h => v = some (.long x) ∧ h0 = h) := by
  refine ctr (own := "com/example/adaptive_mirror/adaptivemirror/net/InFlight$Flush") (nm := "end") rfl rfl (Ls := #[.val (.ref b)]) (plainFor_of_name pn3) (fun m => by first | (simp [entryFrame, mkF, argsToLocals, Value.category]; done) | rfl) ?_
  intro p e s m below meth c K eh
  refine Jvm.OwnWp.aloadN K d_prog_90_method_5_0 rfl rfl (pc' := 1) rfl ?_
  refine Jvm.OwnWp.getf K (wd52 hw) Via.refl G d_prog_90_method_5_1 (pc' := 4) rfl ?_
  refine retL K rfl d_prog_90_method_5_4 (Nat.le_of_ble_eq_true rfl) (Nat.le_of_ble_eq_true rfl) ?_
  exact ⟨rfl, rfl⟩
set_option maxRecDepth 65536 in
set_option maxHeartbeats 40000000 in
theorem c_flu_at (l : Launch) (Z : State) (a0 : Array Value) (hw : ∀ d ∈ tables_1, d.before a0 Z = true) (ws : List Jvm.Cond) (b : Addr) (x : Int64) (h0 : Heap) (n0 : Nat) (Z0 : n0 ≤ h0.size) (G : Fld Z h0 b "com/example/adaptive_mirror/adaptivemirror/net/InFlight$Flush" "at" "J" (.long x)) :
    Ctr l Z (⟨"com/example/adaptive_mirror/adaptivemirror/net/InFlight$Flush", "at", "()J"⟩ : MethodName) prog_90_method_6_code 1 (some .long) ws ({ frames := 0, cells := 0, slots := 0, locals := 0 } : Room) n0 #[(.ref b)] h0 (fun v h => v = some (.long x) ∧ h0 = h) := by
  refine ctr (own := "com/example/adaptive_mirror/adaptivemirror/net/InFlight$Flush") (nm := "at") rfl rfl (Ls := #[.val (.ref b)]) (plainFor_of_name pn3) (fun m => by first | (simp [entryFrame, mkF, argsToLocals, Value.category]; done) | rfl) ?_
  intro p e s m below meth c K eh
  refine Jvm.OwnWp.aloadN K d_prog_90_method_6_0 rfl rfl (pc' := 1) rfl ?_
  refine Jvm.OwnWp.getf K (wd54 hw) Via.refl G d_prog_90_method_6_1 (pc' := 4) rfl ?_
  refine retL K rfl d_prog_90_method_6_4 (Nat.le_of_ble_eq_true rfl) (Nat.le_of_ble_eq_true rfl) ?_
  exact ⟨rfl, rfl⟩
set_option maxRecDepth 65536 in
set_option maxHeartbeats 40000000 in
theorem c_fra (l : Launch) (Z : State) (a0 : Array Value) (hw : ∀ d ∈ tables_1, d.before a0 Z = true) (ws : List Jvm.Cond) (b : Addr) (x0 x1 x2 x3 : Int64) (h0 : Heap) (n0 : Nat) (Z0 : n0 ≤ h0.size) (E : Exa Z h0 b "com/example/adaptive_mirror/adaptivemirror/net/InFlight$Frame") (ge_b : n0 ≤ b) (G_end : Fld Z h0 b "com/example/adaptive_mirror/adaptivemirror/net/InFlight$Frame" "end" "J" (.long 0)) (G_began : Fld Z h0 b "com/example/adaptive_mirror/adaptivemirror/net/InFlight$Frame" "began" "J" (.long 0)) (G_acknowledgedThen : Fld Z h0 b "com/example/adaptive_mirror/adaptivemirror/net/InFlight$Frame" "acknowledgedThen" "J" (.long 0)) (G_limitThen : Fld Z h0 b "com/example/adaptive_mirror/adaptivemirror/net/InFlight$Frame" "limitThen" "J" (.long 0)) :
    Ctr l Z (⟨"com/example/adaptive_mirror/adaptivemirror/net/InFlight$Frame", "<init>", "(JJJJ)V"⟩ : MethodName) prog_91_method_1_code 9 none ws ({ frames := 2, cells := 0, slots := 0, locals := 24 } : Room) n0 #[(.ref b), (.long x0), (.long x1), (.long x2), (.long x3)] h0 (fun v h => v = none ∧ Keep h0 h [b] ∧ Fld Z h b "com/example/adaptive_mirror/adaptivemirror/net/InFlight$Frame" "end" "J" (.long x0) ∧ Fld Z h b "com/example/adaptive_mirror/adaptivemirror/net/InFlight$Frame" "began" "J" (.long x1) ∧ Fld Z h b "com/example/adaptive_mirror/adaptivemirror/net/InFlight$Frame" "acknowledgedThen" "J" (.long x2) ∧ Fld Z h b "com/example/adaptive_mirror/adaptivemirror/net/InFlight$Frame" "limitThen" "J" (.long x3)) := by
  refine ctr (own := "com/example/adaptive_mirror/adaptivemirror/net/InFlight$Frame") (nm := "<init>") rfl rfl (Ls := #[.val (.ref b), .val (.long x0), .second, .val (.long x1), .second, .val (.long x2), .second, .val (.long x3), .second]) (plainFor_of_name pn4) (fun m => by first | (simp [entryFrame, mkF, argsToLocals, Value.category]; done) | rfl) ?_
  intro p e s m below meth c K eh
  have P0 := Keep.refl h0 [b]
  refine Jvm.OwnWp.aloadN K d_prog_91_method_1_0 rfl rfl (pc' := 1) rfl ?_
  refine callInit K (y := (⟨"java/lang/Record", "<init>", "()V"⟩ : MethodName)) (b := b) (argsL := []) (S := []) rfl (wd109 hw) (wd47 hw) (wd49 hw) (wd50 hw) rfl (by decide) (c_rec l Z a0 hw [] b h0 n0 Z0) (lenOf pd0 rfl) d_prog_91_method_1_1 rfl (Nat.le_of_ble_eq_true rfl) (Nat.le_of_ble_eq_true rfl) (Nat.le_of_ble_eq_true rfl) (Nat.le_of_ble_eq_true rfl) rfl (pc' := 4) rfl ?_
  rintro v23 h23 ⟨rfl, rfl⟩
  show Go _ _ _ _ _ _ _ _ _ _ _ h0 0 0 (mkF m 4 #[.val (.ref b), .val (.long x0), .second, .val (.long x1), .second, .val (.long x2), .second, .val (.long x3), .second] []) _
  refine Jvm.OwnWp.aloadN K d_prog_91_method_1_4 rfl rfl (pc' := 5) rfl ?_
  refine Jvm.OwnWp.lloadN K d_prog_91_method_1_5 rfl (pc' := 6) rfl ?_
  refine putf K (wd110 hw) Via.refl G_end E (Or.inr ⟨(wd111 hw), rfl, rfl⟩) (wd91 hw) (ty := .long) (by decide) rfl rfl ge_b d_prog_91_method_1_6 (pc' := 9) rfl ?_
  intro h24 W24
  have F24_began_b := (Fld.other W24 G_began (Or.inr (sn_InFlight_Frame_began_end hw)))
  have F24_acknowledgedThen_b := (Fld.other W24 G_acknowledgedThen (Or.inr (sn_InFlight_Frame_acknowledgedThen_end hw)))
  have F24_limitThen_b := (Fld.other W24 G_limitThen (Or.inr (sn_InFlight_Frame_limitThen_end hw)))
  have X24_b := (Exa.wr W24 E)
  have P24 := (P0.wr W24 (Or.inl (List.mem_of_getElem? (i := 0) rfl)))
  have F24_end_b := Fld.same W24 G_end
  refine Jvm.OwnWp.aloadN K d_prog_91_method_1_9 rfl rfl (pc' := 10) rfl ?_
  refine Jvm.OwnWp.lloadN K d_prog_91_method_1_10 rfl (pc' := 11) rfl ?_
  refine putf K (wd112 hw) Via.refl F24_began_b X24_b (Or.inr ⟨(wd113 hw), rfl, rfl⟩) (wd91 hw) (ty := .long) (by decide) rfl rfl ge_b d_prog_91_method_1_11 (pc' := 14) rfl ?_
  intro h25 W25
  have F25_end_b := (Fld.other W25 F24_end_b (Or.inr (sn_InFlight_Frame_end_began hw)))
  have F25_acknowledgedThen_b := (Fld.other W25 F24_acknowledgedThen_b (Or.inr (sn_InFlight_Frame_acknowledgedThen_began hw)))
  have F25_limitThen_b := (Fld.other W25 F24_limitThen_b (Or.inr (sn_InFlight_Frame_limitThen_began hw)))
  have X25_b := (Exa.wr W25 X24_b)
  have P25 := (P24.wr W25 (Or.inl (List.mem_of_getElem? (i := 0) rfl)))
  have F25_began_b := Fld.same W25 F24_began_b
  refine Jvm.OwnWp.aloadN K d_prog_91_method_1_14 rfl rfl (pc' := 15) rfl ?_
  refine Jvm.OwnWp.lload K d_prog_91_method_1_15 rfl (pc' := 17) rfl ?_
  refine putf K (wd114 hw) Via.refl F25_acknowledgedThen_b X25_b (Or.inr ⟨(wd115 hw), rfl, rfl⟩) (wd91 hw) (ty := .long) (by decide) rfl rfl ge_b d_prog_91_method_1_17 (pc' := 20) rfl ?_
  intro h26 W26
  have F26_end_b := (Fld.other W26 F25_end_b (Or.inr (sn_InFlight_Frame_end_acknowledgedThen hw)))
  have F26_began_b := (Fld.other W26 F25_began_b (Or.inr (sn_InFlight_Frame_began_acknowledgedThen hw)))
  have F26_limitThen_b := (Fld.other W26 F25_limitThen_b (Or.inr (sn_InFlight_Frame_limitThen_acknowledgedThen hw)))
  have X26_b := (Exa.wr W26 X25_b)
  have P26 := (P25.wr W26 (Or.inl (List.mem_of_getElem? (i := 0) rfl)))
  have F26_acknowledgedThen_b := Fld.same W26 F25_acknowledgedThen_b
  refine Jvm.OwnWp.aloadN K d_prog_91_method_1_20 rfl rfl (pc' := 21) rfl ?_
  refine Jvm.OwnWp.lload K d_prog_91_method_1_21 rfl (pc' := 23) rfl ?_
  refine putf K (wd116 hw) Via.refl F26_limitThen_b X26_b (Or.inr ⟨(wd117 hw), rfl, rfl⟩) (wd91 hw) (ty := .long) (by decide) rfl rfl ge_b d_prog_91_method_1_23 (pc' := 26) rfl ?_
  intro h27 W27
  have F27_end_b := (Fld.other W27 F26_end_b (Or.inr (sn_InFlight_Frame_end_limitThen hw)))
  have F27_began_b := (Fld.other W27 F26_began_b (Or.inr (sn_InFlight_Frame_began_limitThen hw)))
  have F27_acknowledgedThen_b := (Fld.other W27 F26_acknowledgedThen_b (Or.inr (sn_InFlight_Frame_acknowledgedThen_limitThen hw)))
  have X27_b := (Exa.wr W27 X26_b)
  have P27 := (P26.wr W27 (Or.inl (List.mem_of_getElem? (i := 0) rfl)))
  have F27_limitThen_b := Fld.same W27 F26_limitThen_b
  refine retV K rfl d_prog_91_method_1_26 (Nat.le_of_ble_eq_true rfl) (Nat.le_of_ble_eq_true rfl) ?_
  exact ⟨rfl, P27, F27_end_b, F27_began_b, F27_acknowledgedThen_b, F27_limitThen_b⟩
set_option maxRecDepth 65536 in
set_option maxHeartbeats 40000000 in
theorem c_fra_end (l : Launch) (Z : State) (a0 : Array Value) (hw : ∀ d ∈ tables_1, d.before a0 Z = true) (ws : List Jvm.Cond) (b : Addr) (x : Int64) (h0 : Heap) (n0 : Nat) (Z0 : n0 ≤ h0.size) (G : Fld Z h0 b "com/example/adaptive_mirror/adaptivemirror/net/InFlight$Frame" "end" "J" (.long x)) :
    Ctr l Z (⟨"com/example/adaptive_mirror/adaptivemirror/net/InFlight$Frame", "end", "()J"⟩ : MethodName) prog_91_method_5_code 1 (some .long) ws ({ frames := 0, cells := 0, slots := 0, locals := 0 } : Room) n0 #[(.ref b)] h0 (fun v h => v = some (.long x) ∧ h0 = h) := by
  refine ctr (own := "com/example/adaptive_mirror/adaptivemirror/net/InFlight$Frame") (nm := "end") rfl rfl (Ls := #[.val (.ref b)]) (plainFor_of_name pn4) (fun m => by first | (simp [entryFrame, mkF, argsToLocals, Value.category]; done) | rfl) ?_
  intro p e s m below meth c K eh
  refine Jvm.OwnWp.aloadN K d_prog_91_method_5_0 rfl rfl (pc' := 1) rfl ?_
  refine Jvm.OwnWp.getf K (wd110 hw) Via.refl G d_prog_91_method_5_1 (pc' := 4) rfl ?_
  refine retL K rfl d_prog_91_method_5_4 (Nat.le_of_ble_eq_true rfl) (Nat.le_of_ble_eq_true rfl) ?_
  exact ⟨rfl, rfl⟩
set_option maxRecDepth 65536 in
set_option maxHeartbeats 40000000 in
theorem c_fra_began (l : Launch) (Z : State) (a0 : Array Value) (hw : ∀ d ∈ tables_1, d.before a0 Z = true) (ws : List Jvm.Cond) (b : Addr) (x : Int64) (h0 : Heap) (n0 : Nat) (Z0 : n0 ≤ h0.size) (G : Fld Z h0 b "com/example/adaptive_mirror/adaptivemirror/net/InFlight$Frame" "began" "J" (.long x)) :
    Ctr l Z (⟨"com/example/adaptive_mirror/adaptivemirror/net/InFlight$Frame", "began", "()J"⟩ : MethodName) prog_91_method_6_code 1 (some .long) ws ({ frames := 0, cells := 0, slots := 0, locals := 0 } : Room) n0 #[(.ref b)] h0 (fun v h => v = some (.long x) ∧ h0 = h) := by
  refine ctr (own := "com/example/adaptive_mirror/adaptivemirror/net/InFlight$Frame") (nm := "began") rfl rfl (Ls := #[.val (.ref b)]) (plainFor_of_name pn4) (fun m => by first | (simp [entryFrame, mkF, argsToLocals, Value.category]; done) | rfl) ?_
  intro p e s m below meth c K eh
  refine Jvm.OwnWp.aloadN K d_prog_91_method_6_0 rfl rfl (pc' := 1) rfl ?_
  refine Jvm.OwnWp.getf K (wd112 hw) Via.refl G d_prog_91_method_6_1 (pc' := 4) rfl ?_
  refine retL K rfl d_prog_91_method_6_4 (Nat.le_of_ble_eq_true rfl) (Nat.le_of_ble_eq_true rfl) ?_
  exact ⟨rfl, rfl⟩
set_option maxRecDepth 65536 in
set_option maxHeartbeats 40000000 in
theorem c_fra_acknowledgedThen (l : Launch) (Z : State) (a0 : Array Value) (hw : ∀ d ∈ tables_1, d.before a0 Z = true) (ws : List Jvm.Cond) (b : Addr) (x : Int64) (h0 : Heap) (n0 : Nat) (Z0 : n0 ≤ h0.size) (G : Fld Z h0 b "com/example/adaptive_mirror/adaptivemirror/net/InFlight$Frame" "acknowledgedThen" "J" (.long x)) :
    Ctr l Z (⟨"com/example/adaptive_mirror/adaptivemirror/net/InFlight$Frame", "acknowledgedThen", "()J"⟩ : MethodName) prog_91_method_7_code 1 (some .long) ws ({ frames := 0, cells := 0, slots := 0, locals := 0 } : Room) n0 #[(.ref b)] h0 (fun v h => v = some (.long x) ∧ h0 = h) := by
  refine ctr (own := "com/example/adaptive_mirror/adaptivemirror/net/InFlight$Frame") (nm := "acknowledgedThen") rfl rfl (Ls := #[.val (.ref b)]) (plainFor_of_name pn4) (fun m => by first | (simp [entryFrame, mkF, argsToLocals, Value.category]; done) | rfl) ?_
  intro p e s m below meth c K eh
  refine Jvm.OwnWp.aloadN K d_prog_91_method_7_0 rfl rfl (pc' := 1) rfl ?_
  refine Jvm.OwnWp.getf K (wd114 hw) Via.refl G d_prog_91_method_7_1 (pc' := 4) rfl ?_
  refine retL K rfl d_prog_91_method_7_4 (Nat.le_of_ble_eq_true rfl) (Nat.le_of_ble_eq_true rfl) ?_
  exact ⟨rfl, rfl⟩
set_option maxRecDepth 65536 in
set_option maxHeartbeats 40000000 in
theorem c_fra_limitThen (l : Launch) (Z : State) (a0 : Array Value) (hw : ∀ d ∈ tables_1, d.before a0 Z = true) (ws : List Jvm.Cond) (b : Addr) (x : Int64) (h0 : Heap) (n0 : Nat) (Z0 : n0 ≤ h0.size) (G : Fld Z h0 b "com/example/adaptive_mirror/adaptivemirror/net/InFlight$Frame" "limitThen" "J" (.long x)) :
    Ctr l Z (⟨"com/example/adaptive_mirror/adaptivemirror/net/InFlight$Frame", "limitThen", "()J"⟩ : MethodName) prog_91_method_8_code 1 (some .long) ws ({ frames := 0, cells := 0, slots := 0, locals := 0 } : Room) n0 #[(.ref b)] h0 (fun v h => v = some (.long x) ∧ h0 = h) := by
  refine ctr (own := "com/example/adaptive_mirror/adaptivemirror/net/InFlight$Frame") (nm := "limitThen") rfl rfl (Ls := #[.val (.ref b)]) (plainFor_of_name pn4) (fun m => by first | (simp [entryFrame, mkF, argsToLocals, Value.category]; done) | rfl) ?_
  intro p e s m below meth c K eh
  refine Jvm.OwnWp.aloadN K d_prog_91_method_8_0 rfl rfl (pc' := 1) rfl ?_
  refine Jvm.OwnWp.getf K (wd116 hw) Via.refl G d_prog_91_method_8_1 (pc' := 4) rfl ?_
  refine retL K rfl d_prog_91_method_8_4 (Nat.le_of_ble_eq_true rfl) (Nat.le_of_ble_eq_true rfl) ?_
  exact ⟨rfl, rfl⟩
set_option maxRecDepth 65536 in
set_option maxHeartbeats 40000000 in
theorem c_ifi (l : Launch) (Z : State) (a0 : Array Value) (hw : ∀ d ∈ tables_1, d.before a0 Z = true) (ws : List Jvm.Cond) (f : Addr) (hh now : Int64) (h0 : Heap) (n0 : Nat) (Z0 : n0 ≤ h0.size) (E_f : Exa Z h0 f "com/example/adaptive_mirror/adaptivemirror/net/InFlight") (ge_f : n0 ≤ f) (G_frames : Fld Z h0 f "com/example/adaptive_mirror/adaptivemirror/net/InFlight" "frames" "Ljava/util/Queue;" .null) (G_flushes : Fld Z h0 f "com/example/adaptive_mirror/adaptivemirror/net/InFlight" "flushes" "Ljava/util/Queue;" .null) (G_roundTrip : Fld Z h0 f "com/example/adaptive_mirror/adaptivemirror/net/InFlight" "roundTrip" "J" (.long 0)) (G_written : Fld Z h0 f "com/example/adaptive_mirror/adaptivemirror/net/InFlight" "written" "J" (.long 0)) (G_flushed : Fld Z h0 f "com/example/adaptive_mirror/adaptivemirror/net/InFlight" "flushed" "J" (.long 0)) (G_acknowledged : Fld Z h0 f "com/example/adaptive_mirror/adaptivemirror/net/InFlight" "acknowledged" "J" (.long 0)) (G_carried : Fld Z h0 f "com/example/adaptive_mirror/adaptivemirror/net/InFlight" "carried" "J" (.long 0)) (G_carriedAt : Fld Z h0 f "com/example/adaptive_mirror/adaptivemirror/net/InFlight" "carriedAt" "J" (.long 0)) :
    Ctr l Z (⟨"com/example/adaptive_mirror/adaptivemirror/net/InFlight", "<init>", "(JJ)V"⟩ : MethodName) prog_89_method_1_code 5 none ws ({ frames := 3, cells := 5, slots := 12, locals := 42 } : Room) n0 #[(.ref f), (.long hh), (.long now)] h0 (fun v h => v = none ∧ Keep h0 h [f] ∧ ∃ fr fe fu ue x : Addr, h0.size ≤ fr ∧ h0.size ≤ fe ∧ h0.size ≤ fu ∧ h0.size ≤ ue ∧ h0.size ≤ x ∧ fr ≠ f ∧ fe ≠ f ∧ fu ≠ f ∧ ue ≠ f ∧ x ≠ f ∧ fe ≠ fr ∧ fu ≠ fr ∧ ue ≠ fr ∧ x ≠ fr ∧ fu ≠ fe ∧ ue ≠ fe ∧ x ≠ fe ∧ ue ≠ fu ∧ x ≠ fu ∧ x ≠ ue ∧ Exa Z h f "com/example/adaptive_mirror/adaptivemirror/net/InFlight" ∧ Fld Z h f "com/example/adaptive_mirror/adaptivemirror/net/InFlight" "frames" "Ljava/util/Queue;" (.ref fr) ∧ Fld Z h f "com/example/adaptive_mirror/adaptivemirror/net/InFlight" "flushes" "Ljava/util/Queue;" (.ref fu) ∧ Fld Z h f "com/example/adaptive_mirror/adaptivemirror/net/InFlight" "roundTrip" "J" (.long 9223372036854775807) ∧ Fld Z h f "com/example/adaptive_mirror/adaptivemirror/net/InFlight" "written" "J" (.long hh) ∧ Fld Z h f "com/example/adaptive_mirror/adaptivemirror/net/InFlight" "flushed" "J" (.long hh) ∧ Fld Z h f "com/example/adaptive_mirror/adaptivemirror/net/InFlight" "acknowledged" "J" (.long 0) ∧ Fld Z h f "com/example/adaptive_mirror/adaptivemirror/net/InFlight" "carried" "J" (.long 0) ∧ Fld Z h f "com/example/adaptive_mirror/adaptivemirror/net/InFlight" "carriedAt" "J" (.long 0) ∧ Exa Z h fe "[Ljava/lang/Object;" ∧ Exa Z h fr "java/util/ArrayDeque" ∧ Fld Z h fr "java/util/ArrayDeque" "elements" "[Ljava/lang/Object;" (.ref fe) ∧ Fld Z h fr "java/util/ArrayDeque" "head" "I" (.int 0) ∧ Fld Z h fr "java/util/ArrayDeque" "tail" "I" (.int 0) ∧ VecR Z h fe "java/lang/Object" (List.replicate 2 .null) ∧ Exa Z h ue "[Ljava/lang/Object;" ∧ Exa Z h fu "java/util/ArrayDeque" ∧ Fld Z h fu "java/util/ArrayDeque" "elements" "[Ljava/lang/Object;" (.ref ue) ∧ Fld Z h fu "java/util/ArrayDeque" "head" "I" (.int 0) ∧ Fld Z h fu "java/util/ArrayDeque" "tail" "I" (.int 1) ∧ VecR Z h ue "java/lang/Object" [.ref x, .null] ∧ Exa Z h x "com/example/adaptive_mirror/adaptivemirror/net/InFlight$Flush" ∧ Fld Z h x "com/example/adaptive_mirror/adaptivemirror/net/InFlight$Flush" "end" "J" (.long hh) ∧ Fld Z h x "com/example/adaptive_mirror/adaptivemirror/net/InFlight$Flush" "at" "J" (.long now)) := by
  refine ctr (own := "com/example/adaptive_mirror/adaptivemirror/net/InFlight") (nm := "<init>") rfl rfl (Ls := #[.val (.ref f), .val (.long hh), .second, .val (.long now), .second]) (plainFor_of_name pn5) (fun m => by first | (simp [entryFrame, mkF, argsToLocals, Value.category]; done) | rfl) ?_
  intro p e s m below meth c K eh
  have P0 := Keep.refl h0 [f]
  refine Jvm.OwnWp.aloadN K d_prog_89_method_1_0 rfl rfl (pc' := 1) rfl ?_
  refine initObj K (wd8 hw) (wd9 hw) (wd10 hw) d_prog_89_method_1_1 rfl (Nat.le_of_ble_eq_true rfl) (Nat.le_of_ble_eq_true rfl) (pc' := 4) rfl ?_
  refine Jvm.OwnWp.aloadN K d_prog_89_method_1_4 rfl rfl (pc' := 5) rfl ?_
  refine newObj K (wd11 hw) (wd12 hw) (wd13 hw) d_prog_89_method_1_5 (by decide) (by decide) (pc' := 8) rfl ?_
  intro h28 b28 g28 E28 A28 D28
  have ne_f_b28 : f ≠ b28 := Nat.ne_of_lt (Nat.lt_of_lt_of_eq (Exa.lt E_f) g28.symm)
  have lt_b28 : h0.size ≤ b28 := Nat.le_trans P0.1 (Nat.le_of_eq g28.symm)
  have ge_b28 : n0 ≤ b28 := Nat.le_trans Z0 lt_b28
  have F28_frames_f := (Fld.ext E28 G_frames)
  have F28_flushes_f := (Fld.ext E28 G_flushes)
  have F28_roundTrip_f := (Fld.ext E28 G_roundTrip)
  have F28_written_f := (Fld.ext E28 G_written)
  have F28_flushed_f := (Fld.ext E28 G_flushed)
  have F28_acknowledged_f := (Fld.ext E28 G_acknowledged)
  have F28_carried_f := (Fld.ext E28 G_carried)
  have F28_carriedAt_f := (Fld.ext E28 G_carriedAt)
  have X28_f := (Exa.ext E28 E_f)
  have P28 := (P0.ext E28)
  have F28_elements_b28 : Fld Z h28 b28 "java/util/ArrayDeque" "elements" "[Ljava/lang/Object;" .null := D28 (Or.inl (wd28 hw)) (ty := (.array (.object "java/lang/Object"))) (by decide)
  have F28_tail_b28 : Fld Z h28 b28 "java/util/ArrayDeque" "tail" "I" (.int (0 : Int32)) := D28 (Or.inl (wd71 hw)) (ty := .int) (by decide)
  have F28_head_b28 : Fld Z h28 b28 "java/util/ArrayDeque" "head" "I" (.int (0 : Int32)) := D28 (Or.inl (wd74 hw)) (ty := .int) (by decide)
  refine Jvm.OwnWp.dup K d_prog_89_method_1_8 rfl (pc' := 9) rfl ?_
  refine Jvm.OwnWp.iconst K (1 : Int32) d_prog_89_method_1_9 (by decide) (pc' := 10) rfl ?_
  show Go _ _ _ _ _ _ _ _ _ _ _ h28 1 3 (mkF m 10 #[.val (.ref f), .val (.long hh), .second, .val (.long now), .second] [(.int 1), (.ref b28), (.ref b28), (.ref f)]) _
  refine callInit K (y := (⟨"java/util/ArrayDeque", "<init>", "(I)V"⟩ : MethodName)) (b := b28) (argsL := [(.int 1)]) (S := [(.ref b28), (.ref f)]) rfl (wd14 hw) (wd15 hw) (wd13 hw) (wd16 hw) rfl (by decide) (c_adi l Z a0 hw [] b28 h28 n0 (Nat.le_trans Z0 P28.1) A28 ge_b28 F28_elements_b28 F28_head_b28 F28_tail_b28) (lenOf pd5 rfl) d_prog_89_method_1_10 rfl (Nat.le_of_ble_eq_true rfl) (Nat.le_of_ble_eq_true rfl) (Nat.le_of_ble_eq_true rfl) (Nat.le_of_ble_eq_true rfl) rfl (pc' := 13) rfl ?_
  rintro v29 h29 ⟨rfl, K29, fe, lt29, Q29_X, Q29_E, Q29_Fe, Q29_Fh, Q29_Ft, Q29_V⟩
  have ne_f_fe : f ≠ fe := Nat.ne_of_lt (Nat.lt_of_lt_of_le (Exa.lt X28_f) lt29)
  have ne_b28_fe : b28 ≠ fe := Nat.ne_of_lt (Nat.lt_of_lt_of_le (Exa.lt A28) lt29)
  have lt_fe : h0.size ≤ fe := Nat.le_trans P28.1 lt29
  have ge_fe : n0 ≤ fe := Nat.le_trans Z0 lt_fe
  have F29_frames_f := (Fld.keep F28_frames_f K29 (ninS ne_f_b28 (nin0)))
  have F29_flushes_f := (Fld.keep F28_flushes_f K29 (ninS ne_f_b28 (nin0)))
  have F29_roundTrip_f := (Fld.keep F28_roundTrip_f K29 (ninS ne_f_b28 (nin0)))
  have F29_written_f := (Fld.keep F28_written_f K29 (ninS ne_f_b28 (nin0)))
  have F29_flushed_f := (Fld.keep F28_flushed_f K29 (ninS ne_f_b28 (nin0)))
  have F29_acknowledged_f := (Fld.keep F28_acknowledged_f K29 (ninS ne_f_b28 (nin0)))
  have F29_carried_f := (Fld.keep F28_carried_f K29 (ninS ne_f_b28 (nin0)))
  have F29_carriedAt_f := (Fld.keep F28_carriedAt_f K29 (ninS ne_f_b28 (nin0)))
  have X29_f := (Exa.keep X28_f K29)
  have X29_b28 := (Exa.keep A28 K29)
  have P29 := (P28.trans K29 (allS (Or.inr lt_b28) (all0)))
  show Go _ _ _ _ _ _ _ _ _ _ _ h29 2 5 (mkF m 13 #[.val (.ref f), .val (.long hh), .second, .val (.long now), .second] [(.ref b28), (.ref f)]) _
  refine putf K (wd29 hw) Via.refl F29_frames_f X29_f (Or.inr ⟨(wd30 hw), rfl, rfl⟩) (wd3 hw) (ty := (.object "java/util/Queue")) (by decide) rfl rfl ge_f d_prog_89_method_1_13 (pc' := 16) rfl ?_
  intro h30 W30
  have F30_flushes_f := (Fld.other W30 F29_flushes_f (Or.inr (sn_InFlight_flushes_frames hw)))
  have F30_roundTrip_f := (Fld.other W30 F29_roundTrip_f (Or.inr (sn_InFlight_roundTrip_frames hw)))
  have F30_written_f := (Fld.other W30 F29_written_f (Or.inr (sn_InFlight_written_frames hw)))
  have F30_flushed_f := (Fld.other W30 F29_flushed_f (Or.inr (sn_InFlight_flushed_frames hw)))
  have F30_acknowledged_f := (Fld.other W30 F29_acknowledged_f (Or.inr (sn_InFlight_acknowledged_frames hw)))
  have F30_carried_f := (Fld.other W30 F29_carried_f (Or.inr (sn_InFlight_carried_frames hw)))
  have F30_carriedAt_f := (Fld.other W30 F29_carriedAt_f (Or.inr (sn_InFlight_carriedAt_frames hw)))
  have F30_elements_b28 := (Fld.other W30 Q29_Fe (Or.inl (Ne.symm ne_f_b28)))
  have F30_head_b28 := (Fld.other W30 Q29_Fh (Or.inl (Ne.symm ne_f_b28)))
  have F30_tail_b28 := (Fld.other W30 Q29_Ft (Or.inl (Ne.symm ne_f_b28)))
  have X30_f := (Exa.wr W30 X29_f)
  have X30_b28 := (Exa.wr W30 Q29_E)
  have X30_fe := (Exa.wr W30 Q29_X)
  have V30_fe := (Q29_V.other W30 (Ne.symm ne_f_fe))
  have P30 := (P29.wr W30 (Or.inl (List.mem_of_getElem? (i := 0) rfl)))
  have F30_frames_f := Fld.same W30 F29_frames_f
  refine Jvm.OwnWp.aloadN K d_prog_89_method_1_16 rfl rfl (pc' := 17) rfl ?_
  refine newObj K (wd11 hw) (wd12 hw) (wd13 hw) d_prog_89_method_1_17 (by decide) (by decide) (pc' := 20) rfl ?_
  intro h31 b31 g31 E31 A31 D31
  have ne_f_b31 : f ≠ b31 := Nat.ne_of_lt (Nat.lt_of_lt_of_eq (Exa.lt X30_f) g31.symm)
  have ne_b28_b31 : b28 ≠ b31 := Nat.ne_of_lt (Nat.lt_of_lt_of_eq (Exa.lt X30_b28) g31.symm)
  have ne_fe_b31 : fe ≠ b31 := Nat.ne_of_lt (Nat.lt_of_lt_of_eq (V30_fe.lt) g31.symm)
  have lt_b31 : h0.size ≤ b31 := Nat.le_trans P30.1 (Nat.le_of_eq g31.symm)
  have ge_b31 : n0 ≤ b31 := Nat.le_trans Z0 lt_b31
  have F31_frames_f := (Fld.ext E31 F30_frames_f)
  have F31_flushes_f := (Fld.ext E31 F30_flushes_f)
  have F31_roundTrip_f := (Fld.ext E31 F30_roundTrip_f)
  have F31_written_f := (Fld.ext E31 F30_written_f)
  have F31_flushed_f := (Fld.ext E31 F30_flushed_f)
  have F31_acknowledged_f := (Fld.ext E31 F30_acknowledged_f)
  have F31_carried_f := (Fld.ext E31 F30_carried_f)
  have F31_carriedAt_f := (Fld.ext E31 F30_carriedAt_f)
  have F31_elements_b28 := (Fld.ext E31 F30_elements_b28)
  have F31_head_b28 := (Fld.ext E31 F30_head_b28)
  have F31_tail_b28 := (Fld.ext E31 F30_tail_b28)
  have X31_f := (Exa.ext E31 X30_f)
  have X31_b28 := (Exa.ext E31 X30_b28)
  have X31_fe := (Exa.ext E31 X30_fe)
  have V31_fe := (V30_fe.ext E31)
  have P31 := (P30.ext E31)
  have F31_elements_b31 : Fld Z h31 b31 "java/util/ArrayDeque" "elements" "[Ljava/lang/Object;" .null := D31 (Or.inl (wd28 hw)) (ty := (.array (.object "java/lang/Object"))) (by decide)
  have F31_tail_b31 : Fld Z h31 b31 "java/util/ArrayDeque" "tail" "I" (.int (0 : Int32)) := D31 (Or.inl (wd71 hw)) (ty := .int) (by decide)
  have F31_head_b31 : Fld Z h31 b31 "java/util/ArrayDeque" "head" "I" (.int (0 : Int32)) := D31 (Or.inl (wd74 hw)) (ty := .int) (by decide)
  refine Jvm.OwnWp.dup K d_prog_89_method_1_20 rfl (pc' := 21) rfl ?_
  refine Jvm.OwnWp.iconst K (1 : Int32) d_prog_89_method_1_21 (by decide) (pc' := 22) rfl ?_
  show Go _ _ _ _ _ _ _ _ _ _ _ h31 3 8 (mkF m 22 #[.val (.ref f), .val (.long hh), .second, .val (.long now), .second] [(.int 1), (.ref b31), (.ref b31), (.ref f)]) _
  refine callInit K (y := (⟨"java/util/ArrayDeque", "<init>", "(I)V"⟩ : MethodName)) (b := b31) (argsL := [(.int 1)]) (S := [(.ref b31), (.ref f)]) rfl (wd14 hw) (wd15 hw) (wd13 hw) (wd16 hw) rfl (by decide) (c_adi l Z a0 hw [] b31 h31 n0 (Nat.le_trans Z0 P31.1) A31 ge_b31 F31_elements_b31 F31_head_b31 F31_tail_b31) (lenOf pd5 rfl) d_prog_89_method_1_22 rfl (Nat.le_of_ble_eq_true rfl) (Nat.le_of_ble_eq_true rfl) (Nat.le_of_ble_eq_true rfl) (Nat.le_of_ble_eq_true rfl) rfl (pc' := 25) rfl ?_
  rintro v32 h32 ⟨rfl, K32, ue, lt32, Q32_X, Q32_E, Q32_Fe, Q32_Fh, Q32_Ft, Q32_V⟩
  have ne_f_ue : f ≠ ue := Nat.ne_of_lt (Nat.lt_of_lt_of_le (Exa.lt X31_f) lt32)
  have ne_b28_ue : b28 ≠ ue := Nat.ne_of_lt (Nat.lt_of_lt_of_le (Exa.lt X31_b28) lt32)
  have ne_b31_ue : b31 ≠ ue := Nat.ne_of_lt (Nat.lt_of_lt_of_le (Exa.lt A31) lt32)
  have ne_fe_ue : fe ≠ ue := Nat.ne_of_lt (Nat.lt_of_lt_of_le (V31_fe.lt) lt32)
  have lt_ue : h0.size ≤ ue := Nat.le_trans P31.1 lt32
  have ge_ue : n0 ≤ ue := Nat.le_trans Z0 lt_ue
  have F32_frames_f := (Fld.keep F31_frames_f K32 (ninS ne_f_b31 (nin0)))
  have F32_flushes_f := (Fld.keep F31_flushes_f K32 (ninS ne_f_b31 (nin0)))
  have F32_roundTrip_f := (Fld.keep F31_roundTrip_f K32 (ninS ne_f_b31 (nin0)))
  have F32_written_f := (Fld.keep F31_written_f K32 (ninS ne_f_b31 (nin0)))
  have F32_flushed_f := (Fld.keep F31_flushed_f K32 (ninS ne_f_b31 (nin0)))
  have F32_acknowledged_f := (Fld.keep F31_acknowledged_f K32 (ninS ne_f_b31 (nin0)))
  have F32_carried_f := (Fld.keep F31_carried_f K32 (ninS ne_f_b31 (nin0)))
  have F32_carriedAt_f := (Fld.keep F31_carriedAt_f K32 (ninS ne_f_b31 (nin0)))
  have F32_elements_b28 := (Fld.keep F31_elements_b28 K32 (ninS ne_b28_b31 (nin0)))
  have F32_head_b28 := (Fld.keep F31_head_b28 K32 (ninS ne_b28_b31 (nin0)))
  have F32_tail_b28 := (Fld.keep F31_tail_b28 K32 (ninS ne_b28_b31 (nin0)))
  have X32_f := (Exa.keep X31_f K32)
  have X32_b28 := (Exa.keep X31_b28 K32)
  have X32_fe := (Exa.keep X31_fe K32)
  have X32_b31 := (Exa.keep A31 K32)
  have V32_fe := (V31_fe.keep K32 (ninS ne_fe_b31 (nin0)))
  have P32 := (P31.trans K32 (allS (Or.inr lt_b31) (all0)))
  show Go _ _ _ _ _ _ _ _ _ _ _ h32 4 10 (mkF m 25 #[.val (.ref f), .val (.long hh), .second, .val (.long now), .second] [(.ref b31), (.ref f)]) _
  refine putf K (wd31 hw) Via.refl F32_flushes_f X32_f (Or.inr ⟨(wd32 hw), rfl, rfl⟩) (wd3 hw) (ty := (.object "java/util/Queue")) (by decide) rfl rfl ge_f d_prog_89_method_1_25 (pc' := 28) rfl ?_
  intro h33 W33
  have F33_frames_f := (Fld.other W33 F32_frames_f (Or.inr (sn_InFlight_frames_flushes hw)))
  have F33_roundTrip_f := (Fld.other W33 F32_roundTrip_f (Or.inr (sn_InFlight_roundTrip_flushes hw)))
  have F33_written_f := (Fld.other W33 F32_written_f (Or.inr (sn_InFlight_written_flushes hw)))
  have F33_flushed_f := (Fld.other W33 F32_flushed_f (Or.inr (sn_InFlight_flushed_flushes hw)))
  have F33_acknowledged_f := (Fld.other W33 F32_acknowledged_f (Or.inr (sn_InFlight_acknowledged_flushes hw)))
  have F33_carried_f := (Fld.other W33 F32_carried_f (Or.inr (sn_InFlight_carried_flushes hw)))
  have F33_carriedAt_f := (Fld.other W33 F32_carriedAt_f (Or.inr (sn_InFlight_carriedAt_flushes hw)))
  have F33_elements_b28 := (Fld.other W33 F32_elements_b28 (Or.inl (Ne.symm ne_f_b28)))
  have F33_head_b28 := (Fld.other W33 F32_head_b28 (Or.inl (Ne.symm ne_f_b28)))
  have F33_tail_b28 := (Fld.other W33 F32_tail_b28 (Or.inl (Ne.symm ne_f_b28)))
  have F33_elements_b31 := (Fld.other W33 Q32_Fe (Or.inl (Ne.symm ne_f_b31)))
  have F33_head_b31 := (Fld.other W33 Q32_Fh (Or.inl (Ne.symm ne_f_b31)))
  have F33_tail_b31 := (Fld.other W33 Q32_Ft (Or.inl (Ne.symm ne_f_b31)))
  have X33_f := (Exa.wr W33 X32_f)
  have X33_b28 := (Exa.wr W33 X32_b28)
  have X33_fe := (Exa.wr W33 X32_fe)
  have X33_b31 := (Exa.wr W33 Q32_E)
  have X33_ue := (Exa.wr W33 Q32_X)
  have V33_fe := (V32_fe.other W33 (Ne.symm ne_f_fe))
  have V33_ue := (Q32_V.other W33 (Ne.symm ne_f_ue))
  have P33 := (P32.wr W33 (Or.inl (List.mem_of_getElem? (i := 0) rfl)))
  have F33_flushes_f := Fld.same W33 F32_flushes_f
  refine Jvm.OwnWp.aloadN K d_prog_89_method_1_28 rfl rfl (pc' := 29) rfl ?_
  refine Jvm.OwnWp.ldc2J K (wd33 hw) d_prog_89_method_1_29 (pc' := 32) rfl ?_
  refine putf K (wd34 hw) Via.refl F33_roundTrip_f X33_f (Or.inl (wd35 hw)) (wd3 hw) (ty := .long) (by decide) rfl rfl ge_f d_prog_89_method_1_32 (pc' := 35) rfl ?_
  intro h34 W34
  have F34_frames_f := (Fld.other W34 F33_frames_f (Or.inr (sn_InFlight_frames_roundTrip hw)))
  have F34_flushes_f := (Fld.other W34 F33_flushes_f (Or.inr (sn_InFlight_flushes_roundTrip hw)))
  have F34_written_f := (Fld.other W34 F33_written_f (Or.inr (sn_InFlight_written_roundTrip hw)))
  have F34_flushed_f := (Fld.other W34 F33_flushed_f (Or.inr (sn_InFlight_flushed_roundTrip hw)))
  have F34_acknowledged_f := (Fld.other W34 F33_acknowledged_f (Or.inr (sn_InFlight_acknowledged_roundTrip hw)))
  have F34_carried_f := (Fld.other W34 F33_carried_f (Or.inr (sn_InFlight_carried_roundTrip hw)))
  have F34_carriedAt_f := (Fld.other W34 F33_carriedAt_f (Or.inr (sn_InFlight_carriedAt_roundTrip hw)))
  have F34_elements_b28 := (Fld.other W34 F33_elements_b28 (Or.inl (Ne.symm ne_f_b28)))
  have F34_head_b28 := (Fld.other W34 F33_head_b28 (Or.inl (Ne.symm ne_f_b28)))
  have F34_tail_b28 := (Fld.other W34 F33_tail_b28 (Or.inl (Ne.symm ne_f_b28)))
  have F34_elements_b31 := (Fld.other W34 F33_elements_b31 (Or.inl (Ne.symm ne_f_b31)))
  have F34_head_b31 := (Fld.other W34 F33_head_b31 (Or.inl (Ne.symm ne_f_b31)))
  have F34_tail_b31 := (Fld.other W34 F33_tail_b31 (Or.inl (Ne.symm ne_f_b31)))
  have X34_f := (Exa.wr W34 X33_f)
  have X34_b28 := (Exa.wr W34 X33_b28)
  have X34_fe := (Exa.wr W34 X33_fe)
  have X34_b31 := (Exa.wr W34 X33_b31)
  have X34_ue := (Exa.wr W34 X33_ue)
  have V34_fe := (V33_fe.other W34 (Ne.symm ne_f_fe))
  have V34_ue := (V33_ue.other W34 (Ne.symm ne_f_ue))
  have P34 := (P33.wr W34 (Or.inl (List.mem_of_getElem? (i := 0) rfl)))
  have F34_roundTrip_f := Fld.same W34 F33_roundTrip_f
  refine Jvm.OwnWp.aloadN K d_prog_89_method_1_35 rfl rfl (pc' := 36) rfl ?_
  refine Jvm.OwnWp.lloadN K d_prog_89_method_1_36 rfl (pc' := 37) rfl ?_
  refine putf K (wd36 hw) Via.refl F34_written_f X34_f (Or.inl (wd37 hw)) (wd3 hw) (ty := .long) (by decide) rfl rfl ge_f d_prog_89_method_1_37 (pc' := 40) rfl ?_
  intro h35 W35
  have F35_frames_f := (Fld.other W35 F34_frames_f (Or.inr (sn_InFlight_frames_written hw)))
  have F35_flushes_f := (Fld.other W35 F34_flushes_f (Or.inr (sn_InFlight_flushes_written hw)))
  have F35_roundTrip_f := (Fld.other W35 F34_roundTrip_f (Or.inr (sn_InFlight_roundTrip_written hw)))
  have F35_flushed_f := (Fld.other W35 F34_flushed_f (Or.inr (sn_InFlight_flushed_written hw)))
  have F35_acknowledged_f := (Fld.other W35 F34_acknowledged_f (Or.inr (sn_InFlight_acknowledged_written hw)))
  have F35_carried_f := (Fld.other W35 F34_carried_f (Or.inr (sn_InFlight_carried_written hw)))
  have F35_carriedAt_f := (Fld.other W35 F34_carriedAt_f (Or.inr (sn_InFlight_carriedAt_written hw)))
  have F35_elements_b28 := (Fld.other W35 F34_elements_b28 (Or.inl (Ne.symm ne_f_b28)))
  have F35_head_b28 := (Fld.other W35 F34_head_b28 (Or.inl (Ne.symm ne_f_b28)))
  have F35_tail_b28 := (Fld.other W35 F34_tail_b28 (Or.inl (Ne.symm ne_f_b28)))
  have F35_elements_b31 := (Fld.other W35 F34_elements_b31 (Or.inl (Ne.symm ne_f_b31)))
  have F35_head_b31 := (Fld.other W35 F34_head_b31 (Or.inl (Ne.symm ne_f_b31)))
  have F35_tail_b31 := (Fld.other W35 F34_tail_b31 (Or.inl (Ne.symm ne_f_b31)))
  have X35_f := (Exa.wr W35 X34_f)
  have X35_b28 := (Exa.wr W35 X34_b28)
  have X35_fe := (Exa.wr W35 X34_fe)
  have X35_b31 := (Exa.wr W35 X34_b31)
  have X35_ue := (Exa.wr W35 X34_ue)
  have V35_fe := (V34_fe.other W35 (Ne.symm ne_f_fe))
  have V35_ue := (V34_ue.other W35 (Ne.symm ne_f_ue))
  have P35 := (P34.wr W35 (Or.inl (List.mem_of_getElem? (i := 0) rfl)))
  have F35_written_f := Fld.same W35 F34_written_f
  refine Jvm.OwnWp.aloadN K d_prog_89_method_1_40 rfl rfl (pc' := 41) rfl ?_
  refine Jvm.OwnWp.lloadN K d_prog_89_method_1_41 rfl (pc' := 42) rfl ?_
  refine putf K (wd38 hw) Via.refl F35_flushed_f X35_f (Or.inl (wd39 hw)) (wd3 hw) (ty := .long) (by decide) rfl rfl ge_f d_prog_89_method_1_42 (pc' := 45) rfl ?_
  intro h36 W36
  have F36_frames_f := (Fld.other W36 F35_frames_f (Or.inr (sn_InFlight_frames_flushed hw)))
  have F36_flushes_f := (Fld.other W36 F35_flushes_f (Or.inr (sn_InFlight_flushes_flushed hw)))
  have F36_roundTrip_f := (Fld.other W36 F35_roundTrip_f (Or.inr (sn_InFlight_roundTrip_flushed hw)))
  have F36_written_f := (Fld.other W36 F35_written_f (Or.inr (sn_InFlight_written_flushed hw)))
  have F36_acknowledged_f := (Fld.other W36 F35_acknowledged_f (Or.inr (sn_InFlight_acknowledged_flushed hw)))
  have F36_carried_f := (Fld.other W36 F35_carried_f (Or.inr (sn_InFlight_carried_flushed hw)))
  have F36_carriedAt_f := (Fld.other W36 F35_carriedAt_f (Or.inr (sn_InFlight_carriedAt_flushed hw)))
  have F36_elements_b28 := (Fld.other W36 F35_elements_b28 (Or.inl (Ne.symm ne_f_b28)))
  have F36_head_b28 := (Fld.other W36 F35_head_b28 (Or.inl (Ne.symm ne_f_b28)))
  have F36_tail_b28 := (Fld.other W36 F35_tail_b28 (Or.inl (Ne.symm ne_f_b28)))
  have F36_elements_b31 := (Fld.other W36 F35_elements_b31 (Or.inl (Ne.symm ne_f_b31)))
  have F36_head_b31 := (Fld.other W36 F35_head_b31 (Or.inl (Ne.symm ne_f_b31)))
  have F36_tail_b31 := (Fld.other W36 F35_tail_b31 (Or.inl (Ne.symm ne_f_b31)))
  have X36_f := (Exa.wr W36 X35_f)
  have X36_b28 := (Exa.wr W36 X35_b28)
  have X36_fe := (Exa.wr W36 X35_fe)
  have X36_b31 := (Exa.wr W36 X35_b31)
  have X36_ue := (Exa.wr W36 X35_ue)
  have V36_fe := (V35_fe.other W36 (Ne.symm ne_f_fe))
  have V36_ue := (V35_ue.other W36 (Ne.symm ne_f_ue))
  have P36 := (P35.wr W36 (Or.inl (List.mem_of_getElem? (i := 0) rfl)))
  have F36_flushed_f := Fld.same W36 F35_flushed_f
  refine Jvm.OwnWp.aloadN K d_prog_89_method_1_45 rfl rfl (pc' := 46) rfl ?_
  refine Jvm.OwnWp.getf K (wd31 hw) Via.refl F36_flushes_f d_prog_89_method_1_46 (pc' := 49) rfl ?_
  refine newObj K (wd40 hw) (wd41 hw) (wd42 hw) d_prog_89_method_1_49 (by decide) (by decide) (pc' := 52) rfl ?_
  intro h37 b37 g37 E37 A37 D37
  have ne_f_b37 : f ≠ b37 := Nat.ne_of_lt (Nat.lt_of_lt_of_eq (Exa.lt X36_f) g37.symm)
  have ne_b28_b37 : b28 ≠ b37 := Nat.ne_of_lt (Nat.lt_of_lt_of_eq (Exa.lt X36_b28) g37.symm)
  have ne_b31_b37 : b31 ≠ b37 := Nat.ne_of_lt (Nat.lt_of_lt_of_eq (Exa.lt X36_b31) g37.symm)
  have ne_fe_b37 : fe ≠ b37 := Nat.ne_of_lt (Nat.lt_of_lt_of_eq (V36_fe.lt) g37.symm)
  have ne_ue_b37 : ue ≠ b37 := Nat.ne_of_lt (Nat.lt_of_lt_of_eq (V36_ue.lt) g37.symm)
  have lt_b37 : h0.size ≤ b37 := Nat.le_trans P36.1 (Nat.le_of_eq g37.symm)
  have ge_b37 : n0 ≤ b37 := Nat.le_trans Z0 lt_b37
  have F37_frames_f := (Fld.ext E37 F36_frames_f)
  have F37_flushes_f := (Fld.ext E37 F36_flushes_f)
  have F37_roundTrip_f := (Fld.ext E37 F36_roundTrip_f)
  have F37_written_f := (Fld.ext E37 F36_written_f)
  have F37_flushed_f := (Fld.ext E37 F36_flushed_f)
  have F37_acknowledged_f := (Fld.ext E37 F36_acknowledged_f)
  have F37_carried_f := (Fld.ext E37 F36_carried_f)
  have F37_carriedAt_f := (Fld.ext E37 F36_carriedAt_f)
  have F37_elements_b28 := (Fld.ext E37 F36_elements_b28)
  have F37_head_b28 := (Fld.ext E37 F36_head_b28)
  have F37_tail_b28 := (Fld.ext E37 F36_tail_b28)
  have F37_elements_b31 := (Fld.ext E37 F36_elements_b31)
  have F37_head_b31 := (Fld.ext E37 F36_head_b31)
  have F37_tail_b31 := (Fld.ext E37 F36_tail_b31)
  have X37_f := (Exa.ext E37 X36_f)
  have X37_b28 := (Exa.ext E37 X36_b28)
  have X37_fe := (Exa.ext E37 X36_fe)
  have X37_b31 := (Exa.ext E37 X36_b31)
  have X37_ue := (Exa.ext E37 X36_ue)
  have V37_fe := (V36_fe.ext E37)
  have V37_ue := (V36_ue.ext E37)
  have P37 := (P36.ext E37)
  have F37_end_b37 : Fld Z h37 b37 "com/example/adaptive_mirror/adaptivemirror/net/InFlight$Flush" "end" "J" (.long (0 : Int64)) := D37 (Or.inr (wd53 hw)) (ty := .long) (by decide)
  have F37_at_b37 : Fld Z h37 b37 "com/example/adaptive_mirror/adaptivemirror/net/InFlight$Flush" "at" "J" (.long (0 : Int64)) := D37 (Or.inr (wd55 hw)) (ty := .long) (by decide)
  refine Jvm.OwnWp.dup K d_prog_89_method_1_52 rfl (pc' := 53) rfl ?_
  refine Jvm.OwnWp.lloadN K d_prog_89_method_1_53 rfl (pc' := 54) rfl ?_
  refine Jvm.OwnWp.lloadN K d_prog_89_method_1_54 rfl (pc' := 55) rfl ?_
  refine callInitRef K (y := (⟨"com/example/adaptive_mirror/adaptivemirror/net/InFlight$Flush", "<init>", "(JJ)V"⟩ : MethodName)) (b := b37) (argsL := [(.long hh), (.long now)]) (S := [(.ref b37), (.ref b31)]) rfl (wd43 hw) (wd44 hw) (wd42 hw) (wd45 hw) rfl (by decide) (c_flu l Z a0 hw [] b37 hh now h37 n0 (Nat.le_trans Z0 P37.1) A37 ge_b37 F37_end_b37 F37_at_b37) (lenOf pd6 rfl) d_prog_89_method_1_55 rfl (Nat.le_of_ble_eq_true rfl) (Nat.le_of_ble_eq_true rfl) (Nat.le_of_ble_eq_true rfl) (Nat.le_of_ble_eq_true rfl) rfl (pc' := 58) rfl ?_
  rintro v38 h38 ⟨rfl, K38, Q38_X_end, Q38_X_at⟩
  have F38_frames_f := (Fld.keep F37_frames_f K38 (ninS ne_f_b37 (nin0)))
  have F38_flushes_f := (Fld.keep F37_flushes_f K38 (ninS ne_f_b37 (nin0)))
  have F38_roundTrip_f := (Fld.keep F37_roundTrip_f K38 (ninS ne_f_b37 (nin0)))
  have F38_written_f := (Fld.keep F37_written_f K38 (ninS ne_f_b37 (nin0)))
  have F38_flushed_f := (Fld.keep F37_flushed_f K38 (ninS ne_f_b37 (nin0)))
  have F38_acknowledged_f := (Fld.keep F37_acknowledged_f K38 (ninS ne_f_b37 (nin0)))
  have F38_carried_f := (Fld.keep F37_carried_f K38 (ninS ne_f_b37 (nin0)))
  have F38_carriedAt_f := (Fld.keep F37_carriedAt_f K38 (ninS ne_f_b37 (nin0)))
  have F38_elements_b28 := (Fld.keep F37_elements_b28 K38 (ninS ne_b28_b37 (nin0)))
  have F38_head_b28 := (Fld.keep F37_head_b28 K38 (ninS ne_b28_b37 (nin0)))
  have F38_tail_b28 := (Fld.keep F37_tail_b28 K38 (ninS ne_b28_b37 (nin0)))
  have F38_elements_b31 := (Fld.keep F37_elements_b31 K38 (ninS ne_b31_b37 (nin0)))
  have F38_head_b31 := (Fld.keep F37_head_b31 K38 (ninS ne_b31_b37 (nin0)))
  have F38_tail_b31 := (Fld.keep F37_tail_b31 K38 (ninS ne_b31_b37 (nin0)))
  have X38_f := (Exa.keep X37_f K38)
  have X38_b28 := (Exa.keep X37_b28 K38)
  have X38_fe := (Exa.keep X37_fe K38)
  have X38_b31 := (Exa.keep X37_b31 K38)
  have X38_ue := (Exa.keep X37_ue K38)
  have X38_b37 := (Exa.keep A37 K38)
  have V38_fe := (V37_fe.keep K38 (ninS ne_fe_b37 (nin0)))
  have V38_ue := (V37_ue.keep K38 (ninS ne_ue_b37 (nin0)))
  have P38 := (P37.trans K38 (allS (Or.inr lt_b37) (all0)))
  show Go _ _ _ _ _ _ _ _ _ _ _ h38 5 12 (mkF m 58 #[.val (.ref f), .val (.long hh), .second, .val (.long now), .second] [(.ref b37), (.ref b31)]) _
  refine callFace K (y := (⟨"java/util/Queue", "add", "(Ljava/lang/Object;)Z"⟩ : MethodName)) (z := (⟨"java/util/ArrayDeque", "add", "(Ljava/lang/Object;)Z"⟩ : MethodName)) (b := b31) (argsL := [(.ref b37)]) (S := []) (wd56 hw) (wd57 hw) (wd58 hw) (by first | rfl | simp [Cond.onTables, Cond.keepsFace, Cond.keeps, Cond.steady, Cond.faceAtom]) (wd59 hw) (wd60 hw) (wd61 hw) (wd62 hw) (wd63 hw) (wd13 hw) (wd64 hw) (by decide) X38_b31 (c_addU l Z a0 hw [] b31 ue b37 h38 n0 (Nat.le_trans Z0 P38.1) X38_ue X38_b31 F38_elements_b31 F38_head_b31 F38_tail_b31 V38_ue X38_b37 ge_b31 ge_ue (Ne.symm ne_b31_ue) (Ne.symm ne_ue_b37) (Ne.symm ne_b31_b37)) (lenOf pd7 rfl) d_prog_89_method_1_58 rfl (Nat.le_of_ble_eq_true rfl) (Nat.le_of_ble_eq_true rfl) (Nat.le_of_ble_eq_true rfl) (Nat.le_of_ble_eq_true rfl) rfl (pc' := 63) rfl ?_
  rintro v39 h39 ⟨rfl, K39, Q39_X, Q39_E, Q39_Fe, Q39_Fh, Q39_Ft, Q39_V⟩
  have F39_frames_f := (Fld.keep F38_frames_f K39 (ninS ne_f_b31 (ninS ne_f_ue (nin0))))
  have F39_flushes_f := (Fld.keep F38_flushes_f K39 (ninS ne_f_b31 (ninS ne_f_ue (nin0))))
  have F39_roundTrip_f := (Fld.keep F38_roundTrip_f K39 (ninS ne_f_b31 (ninS ne_f_ue (nin0))))
  have F39_written_f := (Fld.keep F38_written_f K39 (ninS ne_f_b31 (ninS ne_f_ue (nin0))))
  have F39_flushed_f := (Fld.keep F38_flushed_f K39 (ninS ne_f_b31 (ninS ne_f_ue (nin0))))
  have F39_acknowledged_f := (Fld.keep F38_acknowledged_f K39 (ninS ne_f_b31 (ninS ne_f_ue (nin0))))
  have F39_carried_f := (Fld.keep F38_carried_f K39 (ninS ne_f_b31 (ninS ne_f_ue (nin0))))
  have F39_carriedAt_f := (Fld.keep F38_carriedAt_f K39 (ninS ne_f_b31 (ninS ne_f_ue (nin0))))
  have F39_elements_b28 := (Fld.keep F38_elements_b28 K39 (ninS ne_b28_b31 (ninS ne_b28_ue (nin0))))
  have F39_head_b28 := (Fld.keep F38_head_b28 K39 (ninS ne_b28_b31 (ninS ne_b28_ue (nin0))))
  have F39_tail_b28 := (Fld.keep F38_tail_b28 K39 (ninS ne_b28_b31 (ninS ne_b28_ue (nin0))))
  have F39_end_b37 := (Fld.keep Q38_X_end K39 (ninS (Ne.symm ne_b31_b37) (ninS (Ne.symm ne_ue_b37) (nin0))))
  have F39_at_b37 := (Fld.keep Q38_X_at K39 (ninS (Ne.symm ne_b31_b37) (ninS (Ne.symm ne_ue_b37) (nin0))))
  have X39_f := (Exa.keep X38_f K39)
  have X39_b28 := (Exa.keep X38_b28 K39)
  have X39_fe := (Exa.keep X38_fe K39)
  have X39_b31 := (Exa.keep X38_b31 K39)
  have X39_ue := (Exa.keep X38_ue K39)
  have X39_b37 := (Exa.keep X38_b37 K39)
  have V39_fe := (V38_fe.keep K39 (ninS ne_fe_b31 (ninS ne_fe_ue (nin0))))
  have P39 := (P38.trans K39 (allS (Or.inr lt_b31) (allS (Or.inr lt_ue) (all0))))
  show Go _ _ _ _ _ _ _ _ _ _ _ h39 5 12 (mkF m 63 #[.val (.ref f), .val (.long hh), .second, .val (.long now), .second] [(.int (1 : Int32))]) _
  refine Jvm.OwnWp.pop K d_prog_89_method_1_63 rfl (pc' := 64) rfl ?_
  refine retV K rfl d_prog_89_method_1_64 (Nat.le_of_ble_eq_true rfl) (Nat.le_of_ble_eq_true rfl) ?_
  exact ⟨rfl, P39, _, _, _, _, _, lt_b28, lt_fe, lt_b31, lt_ue, lt_b37, (Ne.symm ne_f_b28), (Ne.symm ne_f_fe), (Ne.symm ne_f_b31), (Ne.symm ne_f_ue), (Ne.symm ne_f_b37), (Ne.symm ne_b28_fe), (Ne.symm ne_b28_b31), (Ne.symm ne_b28_ue), (Ne.symm ne_b28_b37), (Ne.symm ne_fe_b31), (Ne.symm ne_fe_ue), (Ne.symm ne_fe_b37), (Ne.symm ne_b31_ue), (Ne.symm ne_b31_b37), (Ne.symm ne_ue_b37), X39_f, F39_frames_f, F39_flushes_f, F39_roundTrip_f, F39_written_f, F39_flushed_f, F39_acknowledged_f, F39_carried_f, F39_carriedAt_f, X39_fe, X39_b28, F39_elements_b28, F39_head_b28, F39_tail_b28, V39_fe, Q39_X, Q39_E, Q39_Fe, Q39_Fh, Q39_Ft, Q39_V, X39_b37, F39_end_b37, F39_at_b37⟩
set_option maxRecDepth 65536 in
set_option maxHeartbeats 40000000 in
theorem c_lim (l : Launch) (Z : State) (a0 : Array Value) (hw : ∀ d ∈ tables_1, d.before a0 Z = true) (ws : List Jvm.Cond) (f : Addr) (x : Int64) (h0 : Heap) (n0 : Nat) (Z0 : n0 ≤ h0.size) (G : Fld Z h0 f "com/example/adaptive_mirror/adaptivemirror/net/InFlight" "carried" "J" (.long x)) :
    Ctr l Z (⟨"com/example/adaptive_mirror/adaptivemirror/net/InFlight", "limit", "()J"⟩ : MethodName) prog_89_method_5_code 1 (some .long) ws ({ frames := 1, cells := 0, slots := 0, locals := 15 } : Room) n0 #[(.ref f)] h0 (fun v h => v = some (.long (if (65536 : Int64) < 2 * x then 2 * x else 65536)) ∧ h0 = h) := by
  refine ctr (own := "com/example/adaptive_mirror/adaptivemirror/net/InFlight") (nm := "limit") rfl rfl (Ls := #[.val (.ref f)]) (plainFor_of_name pn5) (fun m => by first | (simp [entryFrame, mkF, argsToLocals, Value.category]; done) | rfl) ?_
  intro p e s m below meth c K eh
  refine Jvm.OwnWp.ldc2J K (wd98 hw) d_prog_89_method_5_0 (pc' := 3) rfl ?_
  refine Jvm.OwnWp.ldc2J K (wd99 hw) d_prog_89_method_5_3 (pc' := 6) rfl ?_
  refine Jvm.OwnWp.aloadN K d_prog_89_method_5_6 rfl rfl (pc' := 7) rfl ?_
  refine Jvm.OwnWp.getf K (wd100 hw) Via.refl G d_prog_89_method_5_7 (pc' := 10) rfl ?_
  refine Jvm.OwnWp.lmul K d_prog_89_method_5_10 (pc' := 11) rfl ?_
  refine callStatic K (y := (⟨"java/lang/Math", "max", "(JJ)J"⟩ : MethodName)) (argsL := [(.long (65536 : Int64)), (.long ((2 : Int64) * x))]) (S := []) (wd102 hw) (wd103 hw) (wd104 hw) (wd105 hw) (by decide) (c_max l Z a0 hw [] 65536 (2 * x) h0 n0 Z0) (lenOf pd8 rfl) d_prog_89_method_5_11 rfl (Nat.le_of_ble_eq_true rfl) (Nat.le_of_ble_eq_true rfl) (Nat.le_of_ble_eq_true rfl) (Nat.le_of_ble_eq_true rfl) rfl (pc' := 14) rfl ?_
  rintro v40 h40 ⟨rfl, rfl⟩
  show Go _ _ _ _ _ _ _ _ _ _ _ h0 0 0 (mkF m 14 #[.val (.ref f)] [(.long (if (65536 : Int64) < 2 * x then 2 * x else 65536))]) _
  refine retL K rfl d_prog_89_method_5_14 (Nat.le_of_ble_eq_true rfl) (Nat.le_of_ble_eq_true rfl) ?_
  exact ⟨rfl, rfl⟩
set_option maxRecDepth 65536 in
set_option maxHeartbeats 40000000 in
theorem c_wri (l : Launch) (Z : State) (a0 : Array Value) (hw : ∀ d ∈ tables_1, d.before a0 Z = true) (ws : List Jvm.Cond) (f fr fe fu : Addr) (hh ss now : Int64) (h0 : Heap) (n0 : Nat) (Z0 : n0 ≤ h0.size) (E_f : Exa Z h0 f "com/example/adaptive_mirror/adaptivemirror/net/InFlight") (F_frames : Fld Z h0 f "com/example/adaptive_mirror/adaptivemirror/net/InFlight" "frames" "Ljava/util/Queue;" (.ref fr)) (F_flushes : Fld Z h0 f "com/example/adaptive_mirror/adaptivemirror/net/InFlight" "flushes" "Ljava/util/Queue;" (.ref fu)) (F_roundTrip : Fld Z h0 f "com/example/adaptive_mirror/adaptivemirror/net/InFlight" "roundTrip" "J" (.long 9223372036854775807)) (F_written : Fld Z h0 f "com/example/adaptive_mirror/adaptivemirror/net/InFlight" "written" "J" (.long hh)) (F_flushed : Fld Z h0 f "com/example/adaptive_mirror/adaptivemirror/net/InFlight" "flushed" "J" (.long hh)) (F_acknowledged : Fld Z h0 f "com/example/adaptive_mirror/adaptivemirror/net/InFlight" "acknowledged" "J" (.long 0)) (F_carried : Fld Z h0 f "com/example/adaptive_mirror/adaptivemirror/net/InFlight" "carried" "J" (.long 0)) (F_carriedAt : Fld Z h0 f "com/example/adaptive_mirror/adaptivemirror/net/InFlight" "carriedAt" "J" (.long 0)) (rX : Exa Z h0 fe "[Ljava/lang/Object;") (rE : Exa Z h0 fr "java/util/ArrayDeque") (rFe : Fld Z h0 fr "java/util/ArrayDeque" "elements" "[Ljava/lang/Object;" (.ref fe)) (rFh : Fld Z h0 fr "java/util/ArrayDeque" "head" "I" (.int 0)) (rFt : Fld Z h0 fr "java/util/ArrayDeque" "tail" "I" (.int 0)) (rV : VecR Z h0 fe "java/lang/Object" (List.replicate 2 .null)) (ne_fr_f : fr ≠ f) (ne_fe_f : fe ≠ f) (ne_fe_fr : fe ≠ fr) (ge_f : n0 ≤ f) (ge_fr : n0 ≤ fr) (ge_fe : n0 ≤ fe) :
    Ctr l Z (⟨"com/example/adaptive_mirror/adaptivemirror/net/InFlight", "written", "(JJ)J"⟩ : MethodName) prog_89_method_6_code 7 (some .long) ws ({ frames := 3, cells := 1, slots := 4, locals := 46 } : Room) n0 #[(.ref f), (.long ss), (.long now)] h0 (fun v h => v = some (.long hh) ∧ Keep h0 h [f, fr, fe] ∧ ∃ y : Addr, h0.size ≤ y ∧ Exa Z h f "com/example/adaptive_mirror/adaptivemirror/net/InFlight" ∧ Fld Z h f "com/example/adaptive_mirror/adaptivemirror/net/InFlight" "frames" "Ljava/util/Queue;" (.ref fr) ∧ Fld Z h f "com/example/adaptive_mirror/adaptivemirror/net/InFlight" "flushes" "Ljava/util/Queue;" (.ref fu) ∧ Fld Z h f "com/example/adaptive_mirror/adaptivemirror/net/InFlight" "roundTrip" "J" (.long 9223372036854775807) ∧ Fld Z h f "com/example/adaptive_mirror/adaptivemirror/net/InFlight" "written" "J" (.long (hh + ss)) ∧ Fld Z h f "com/example/adaptive_mirror/adaptivemirror/net/InFlight" "flushed" "J" (.long hh) ∧ Fld Z h f "com/example/adaptive_mirror/adaptivemirror/net/InFlight" "acknowledged" "J" (.long 0) ∧ Fld Z h f "com/example/adaptive_mirror/adaptivemirror/net/InFlight" "carried" "J" (.long 0) ∧ Fld Z h f "com/example/adaptive_mirror/adaptivemirror/net/InFlight" "carriedAt" "J" (.long 0) ∧ Exa Z h fe "[Ljava/lang/Object;" ∧ Exa Z h fr "java/util/ArrayDeque" ∧ Fld Z h fr "java/util/ArrayDeque" "elements" "[Ljava/lang/Object;" (.ref fe) ∧ Fld Z h fr "java/util/ArrayDeque" "head" "I" (.int 0) ∧ Fld Z h fr "java/util/ArrayDeque" "tail" "I" (.int 1) ∧ VecR Z h fe "java/lang/Object" [.ref y, .null] ∧ Exa Z h y "com/example/adaptive_mirror/adaptivemirror/net/InFlight$Frame" ∧ Fld Z h y "com/example/adaptive_mirror/adaptivemirror/net/InFlight$Frame" "end" "J" (.long (hh + ss)) ∧ Fld Z h y "com/example/adaptive_mirror/adaptivemirror/net/InFlight$Frame" "began" "J" (.long now) ∧ Fld Z h y "com/example/adaptive_mirror/adaptivemirror/net/InFlight$Frame" "acknowledgedThen" "J" (.long 0) ∧ Fld Z h y "com/example/adaptive_mirror/adaptivemirror/net/InFlight$Frame" "limitThen" "J" (.long 65536)) := by
  refine ctr (own := "com/example/adaptive_mirror/adaptivemirror/net/InFlight") (nm := "written") rfl rfl (Ls := #[.val (.ref f), .val (.long ss), .second, .val (.long now), .second, .unset, .unset]) (plainFor_of_name pn5) (fun m => by first | (simp [entryFrame, mkF, argsToLocals, Value.category]; done) | rfl) ?_
  intro p e s m below meth c K eh
  have P0 := Keep.refl h0 [f, fr, fe]
  refine Jvm.OwnWp.aloadN K d_prog_89_method_6_0 rfl rfl (pc' := 1) rfl ?_
  refine Jvm.OwnWp.getf K (wd36 hw) Via.refl F_written d_prog_89_method_6_1 (pc' := 4) rfl ?_
  refine Jvm.OwnWp.lstore K d_prog_89_method_6_4 (Ls' := #[.val (.ref f), .val (.long ss), .second, .val (.long now), .second, .val (.long hh), .second]) rfl (pc' := 6) rfl ?_
  refine Jvm.OwnWp.aloadN K d_prog_89_method_6_6 rfl rfl (pc' := 7) rfl ?_
  refine Jvm.OwnWp.dup K d_prog_89_method_6_7 rfl (pc' := 8) rfl ?_
  refine Jvm.OwnWp.getf K (wd36 hw) Via.refl F_written d_prog_89_method_6_8 (pc' := 11) rfl ?_
  refine Jvm.OwnWp.lloadN K d_prog_89_method_6_11 rfl (pc' := 12) rfl ?_
  refine Jvm.OwnWp.ladd K d_prog_89_method_6_12 (pc' := 13) rfl ?_
  refine putf K (wd36 hw) Via.refl F_written E_f (Or.inl (wd37 hw)) (wd3 hw) (ty := .long) (by decide) rfl rfl ge_f d_prog_89_method_6_13 (pc' := 16) rfl ?_
  intro h41 W41
  have F41_frames_f := (Fld.other W41 F_frames (Or.inr (sn_InFlight_frames_written hw)))
  have F41_flushes_f := (Fld.other W41 F_flushes (Or.inr (sn_InFlight_flushes_written hw)))
  have F41_roundTrip_f := (Fld.other W41 F_roundTrip (Or.inr (sn_InFlight_roundTrip_written hw)))
  have F41_flushed_f := (Fld.other W41 F_flushed (Or.inr (sn_InFlight_flushed_written hw)))
  have F41_acknowledged_f := (Fld.other W41 F_acknowledged (Or.inr (sn_InFlight_acknowledged_written hw)))
  have F41_carried_f := (Fld.other W41 F_carried (Or.inr (sn_InFlight_carried_written hw)))
  have F41_carriedAt_f := (Fld.other W41 F_carriedAt (Or.inr (sn_InFlight_carriedAt_written hw)))
  have F41_elements_fr := (Fld.other W41 rFe (Or.inl ne_fr_f))
  have F41_head_fr := (Fld.other W41 rFh (Or.inl ne_fr_f))
  have F41_tail_fr := (Fld.other W41 rFt (Or.inl ne_fr_f))
  have X41_f := (Exa.wr W41 E_f)
  have X41_fr := (Exa.wr W41 rE)
  have X41_fe := (Exa.wr W41 rX)
  have V41_fe := (rV.other W41 ne_fe_f)
  have P41 := (P0.wr W41 (Or.inl (List.mem_of_getElem? (i := 0) rfl)))
  have F41_written_f := Fld.same W41 F_written
  refine Jvm.OwnWp.aloadN K d_prog_89_method_6_16 rfl rfl (pc' := 17) rfl ?_
  refine Jvm.OwnWp.getf K (wd29 hw) Via.refl F41_frames_f d_prog_89_method_6_17 (pc' := 20) rfl ?_
  refine newObj K (wd90 hw) (wd91 hw) (wd92 hw) d_prog_89_method_6_20 (by decide) (by decide) (pc' := 23) rfl ?_
  intro h42 b42 g42 E42 A42 D42
  have ne_f_b42 : f ≠ b42 := Nat.ne_of_lt (Nat.lt_of_lt_of_eq (Exa.lt X41_f) g42.symm)
  have ne_fr_b42 : fr ≠ b42 := Nat.ne_of_lt (Nat.lt_of_lt_of_eq (Exa.lt X41_fr) g42.symm)
  have ne_fe_b42 : fe ≠ b42 := Nat.ne_of_lt (Nat.lt_of_lt_of_eq (V41_fe.lt) g42.symm)
  have lt_b42 : h0.size ≤ b42 := Nat.le_trans P41.1 (Nat.le_of_eq g42.symm)
  have ge_b42 : n0 ≤ b42 := Nat.le_trans Z0 lt_b42
  have F42_frames_f := (Fld.ext E42 F41_frames_f)
  have F42_flushes_f := (Fld.ext E42 F41_flushes_f)
  have F42_roundTrip_f := (Fld.ext E42 F41_roundTrip_f)
  have F42_written_f := (Fld.ext E42 F41_written_f)
  have F42_flushed_f := (Fld.ext E42 F41_flushed_f)
  have F42_acknowledged_f := (Fld.ext E42 F41_acknowledged_f)
  have F42_carried_f := (Fld.ext E42 F41_carried_f)
  have F42_carriedAt_f := (Fld.ext E42 F41_carriedAt_f)
  have F42_elements_fr := (Fld.ext E42 F41_elements_fr)
  have F42_head_fr := (Fld.ext E42 F41_head_fr)
  have F42_tail_fr := (Fld.ext E42 F41_tail_fr)
  have X42_f := (Exa.ext E42 X41_f)
  have X42_fr := (Exa.ext E42 X41_fr)
  have X42_fe := (Exa.ext E42 X41_fe)
  have V42_fe := (V41_fe.ext E42)
  have P42 := (P41.ext E42)
  have F42_end_b42 : Fld Z h42 b42 "com/example/adaptive_mirror/adaptivemirror/net/InFlight$Frame" "end" "J" (.long (0 : Int64)) := D42 (Or.inr (wd111 hw)) (ty := .long) (by decide)
  have F42_began_b42 : Fld Z h42 b42 "com/example/adaptive_mirror/adaptivemirror/net/InFlight$Frame" "began" "J" (.long (0 : Int64)) := D42 (Or.inr (wd113 hw)) (ty := .long) (by decide)
  have F42_acknowledgedThen_b42 : Fld Z h42 b42 "com/example/adaptive_mirror/adaptivemirror/net/InFlight$Frame" "acknowledgedThen" "J" (.long (0 : Int64)) := D42 (Or.inr (wd115 hw)) (ty := .long) (by decide)
  have F42_limitThen_b42 : Fld Z h42 b42 "com/example/adaptive_mirror/adaptivemirror/net/InFlight$Frame" "limitThen" "J" (.long (0 : Int64)) := D42 (Or.inr (wd117 hw)) (ty := .long) (by decide)
  refine Jvm.OwnWp.dup K d_prog_89_method_6_23 rfl (pc' := 24) rfl ?_
  refine Jvm.OwnWp.aloadN K d_prog_89_method_6_24 rfl rfl (pc' := 25) rfl ?_
  refine Jvm.OwnWp.getf K (wd36 hw) Via.refl F42_written_f d_prog_89_method_6_25 (pc' := 28) rfl ?_
  refine Jvm.OwnWp.lloadN K d_prog_89_method_6_28 rfl (pc' := 29) rfl ?_
  refine Jvm.OwnWp.aloadN K d_prog_89_method_6_29 rfl rfl (pc' := 30) rfl ?_
  refine Jvm.OwnWp.getf K (wd83 hw) Via.refl F42_acknowledged_f d_prog_89_method_6_30 (pc' := 33) rfl ?_
  refine Jvm.OwnWp.aloadN K d_prog_89_method_6_33 rfl rfl (pc' := 34) rfl ?_
  refine callVirt K (y := (⟨"com/example/adaptive_mirror/adaptivemirror/net/InFlight", "limit", "()J"⟩ : MethodName)) (b := f) (argsL := []) (S := [(.long (0 : Int64)), (.long now), (.long (hh + ss)), (.ref b42), (.ref b42), (.ref fr)]) (wd93 hw) (wd94 hw) (wd96 hw) (wd95 hw) (wd4 hw) (wd97 hw) (by decide) X42_f (c_lim l Z a0 hw [] f 0 h42 n0 (Nat.le_trans Z0 P42.1) F42_carried_f) (lenOf pd9 rfl) d_prog_89_method_6_34 rfl (Nat.le_of_ble_eq_true rfl) (Nat.le_of_ble_eq_true rfl) (Nat.le_of_ble_eq_true rfl) (Nat.le_of_ble_eq_true rfl) rfl (pc' := 37) rfl ?_
  rintro v43 h43 ⟨rfl, rfl⟩
  show Go _ _ _ _ _ _ _ _ _ _ _ h42 1 4 (mkF m 37 #[.val (.ref f), .val (.long ss), .second, .val (.long now), .second, .val (.long hh), .second] [(.long (if (65536 : Int64) < 2 * 0 then 2 * 0 else 65536)), (.long (0 : Int64)), (.long now), (.long (hh + ss)), (.ref b42), (.ref b42), (.ref fr)]) _
  rw [show (if (65536 : Int64) < 2 * 0 then (2 * 0 : Int64) else 65536) = 65536 from by decide]
  show Go _ _ _ _ _ _ _ _ _ _ _ h42 1 4 (mkF m 37 #[.val (.ref f), .val (.long ss), .second, .val (.long now), .second, .val (.long hh), .second] [(.long (65536 : Int64)), (.long (0 : Int64)), (.long now), (.long (hh + ss)), (.ref b42), (.ref b42), (.ref fr)]) _
  refine callInitRef K (y := (⟨"com/example/adaptive_mirror/adaptivemirror/net/InFlight$Frame", "<init>", "(JJJJ)V"⟩ : MethodName)) (b := b42) (argsL := [(.long (hh + ss)), (.long now), (.long (0 : Int64)), (.long (65536 : Int64))]) (S := [(.ref b42), (.ref fr)]) rfl (wd106 hw) (wd107 hw) (wd92 hw) (wd108 hw) rfl (by decide) (c_fra l Z a0 hw [] b42 (hh + ss) now 0 65536 h42 n0 (Nat.le_trans Z0 P42.1) A42 ge_b42 F42_end_b42 F42_began_b42 F42_acknowledgedThen_b42 F42_limitThen_b42) (lenOf pd10 rfl) d_prog_89_method_6_37 rfl (Nat.le_of_ble_eq_true rfl) (Nat.le_of_ble_eq_true rfl) (Nat.le_of_ble_eq_true rfl) (Nat.le_of_ble_eq_true rfl) rfl (pc' := 40) rfl ?_
  rintro v44 h44 ⟨rfl, K44, Q44_Y_end, Q44_Y_began, Q44_Y_acknowledgedThen, Q44_Y_limitThen⟩
  have F44_frames_f := (Fld.keep F42_frames_f K44 (ninS ne_f_b42 (nin0)))
  have F44_flushes_f := (Fld.keep F42_flushes_f K44 (ninS ne_f_b42 (nin0)))
  have F44_roundTrip_f := (Fld.keep F42_roundTrip_f K44 (ninS ne_f_b42 (nin0)))
  have F44_written_f := (Fld.keep F42_written_f K44 (ninS ne_f_b42 (nin0)))
  have F44_flushed_f := (Fld.keep F42_flushed_f K44 (ninS ne_f_b42 (nin0)))
  have F44_acknowledged_f := (Fld.keep F42_acknowledged_f K44 (ninS ne_f_b42 (nin0)))
  have F44_carried_f := (Fld.keep F42_carried_f K44 (ninS ne_f_b42 (nin0)))
  have F44_carriedAt_f := (Fld.keep F42_carriedAt_f K44 (ninS ne_f_b42 (nin0)))
  have F44_elements_fr := (Fld.keep F42_elements_fr K44 (ninS ne_fr_b42 (nin0)))
  have F44_head_fr := (Fld.keep F42_head_fr K44 (ninS ne_fr_b42 (nin0)))
  have F44_tail_fr := (Fld.keep F42_tail_fr K44 (ninS ne_fr_b42 (nin0)))
  have X44_f := (Exa.keep X42_f K44)
  have X44_fr := (Exa.keep X42_fr K44)
  have X44_fe := (Exa.keep X42_fe K44)
  have X44_b42 := (Exa.keep A42 K44)
  have V44_fe := (V42_fe.keep K44 (ninS ne_fe_b42 (nin0)))
  have P44 := (P42.trans K44 (allS (Or.inr lt_b42) (all0)))
  show Go _ _ _ _ _ _ _ _ _ _ _ h44 1 4 (mkF m 40 #[.val (.ref f), .val (.long ss), .second, .val (.long now), .second, .val (.long hh), .second] [(.ref b42), (.ref fr)]) _
  refine callFace K (y := (⟨"java/util/Queue", "add", "(Ljava/lang/Object;)Z"⟩ : MethodName)) (z := (⟨"java/util/ArrayDeque", "add", "(Ljava/lang/Object;)Z"⟩ : MethodName)) (b := fr) (argsL := [(.ref b42)]) (S := []) (wd56 hw) (wd57 hw) (wd58 hw) (by first | rfl | simp [Cond.onTables, Cond.keepsFace, Cond.keeps, Cond.steady, Cond.faceAtom]) (wd59 hw) (wd60 hw) (wd61 hw) (wd62 hw) (wd63 hw) (wd13 hw) (wd64 hw) (by decide) X44_fr (c_addA l Z a0 hw [] fr fe b42 h44 n0 (Nat.le_trans Z0 P44.1) X44_fe X44_fr F44_elements_fr F44_head_fr F44_tail_fr V44_fe X44_b42 ge_fr ge_fe ne_fe_fr (Ne.symm ne_fe_b42) (Ne.symm ne_fr_b42)) (lenOf pd7 rfl) d_prog_89_method_6_40 rfl (Nat.le_of_ble_eq_true rfl) (Nat.le_of_ble_eq_true rfl) (Nat.le_of_ble_eq_true rfl) (Nat.le_of_ble_eq_true rfl) rfl (pc' := 45) rfl ?_
  rintro v45 h45 ⟨rfl, K45, Q45_X, Q45_E, Q45_Fe, Q45_Fh, Q45_Ft, Q45_V⟩
  have F45_frames_f := (Fld.keep F44_frames_f K45 (ninS (Ne.symm ne_fr_f) (ninS (Ne.symm ne_fe_f) (nin0))))
  have F45_flushes_f := (Fld.keep F44_flushes_f K45 (ninS (Ne.symm ne_fr_f) (ninS (Ne.symm ne_fe_f) (nin0))))
  have F45_roundTrip_f := (Fld.keep F44_roundTrip_f K45 (ninS (Ne.symm ne_fr_f) (ninS (Ne.symm ne_fe_f) (nin0))))
  have F45_written_f := (Fld.keep F44_written_f K45 (ninS (Ne.symm ne_fr_f) (ninS (Ne.symm ne_fe_f) (nin0))))
  have F45_flushed_f := (Fld.keep F44_flushed_f K45 (ninS (Ne.symm ne_fr_f) (ninS (Ne.symm ne_fe_f) (nin0))))
  have F45_acknowledged_f := (Fld.keep F44_acknowledged_f K45 (ninS (Ne.symm ne_fr_f) (ninS (Ne.symm ne_fe_f) (nin0))))
  have F45_carried_f := (Fld.keep F44_carried_f K45 (ninS (Ne.symm ne_fr_f) (ninS (Ne.symm ne_fe_f) (nin0))))
  have F45_carriedAt_f := (Fld.keep F44_carriedAt_f K45 (ninS (Ne.symm ne_fr_f) (ninS (Ne.symm ne_fe_f) (nin0))))
  have F45_end_b42 := (Fld.keep Q44_Y_end K45 (ninS (Ne.symm ne_fr_b42) (ninS (Ne.symm ne_fe_b42) (nin0))))
  have F45_began_b42 := (Fld.keep Q44_Y_began K45 (ninS (Ne.symm ne_fr_b42) (ninS (Ne.symm ne_fe_b42) (nin0))))
  have F45_acknowledgedThen_b42 := (Fld.keep Q44_Y_acknowledgedThen K45 (ninS (Ne.symm ne_fr_b42) (ninS (Ne.symm ne_fe_b42) (nin0))))
  have F45_limitThen_b42 := (Fld.keep Q44_Y_limitThen K45 (ninS (Ne.symm ne_fr_b42) (ninS (Ne.symm ne_fe_b42) (nin0))))
  have X45_f := (Exa.keep X44_f K45)
  have X45_fr := (Exa.keep X44_fr K45)
  have X45_fe := (Exa.keep X44_fe K45)
  have X45_b42 := (Exa.keep X44_b42 K45)
  have P45 := (P44.trans K45 (allS (Or.inl (List.mem_of_getElem? (i := 1) rfl)) (allS (Or.inl (List.mem_of_getElem? (i := 2) rfl)) (all0))))
  show Go _ _ _ _ _ _ _ _ _ _ _ h45 1 4 (mkF m 45 #[.val (.ref f), .val (.long ss), .second, .val (.long now), .second, .val (.long hh), .second] [(.int (1 : Int32))]) _
  refine Jvm.OwnWp.pop K d_prog_89_method_6_45 rfl (pc' := 46) rfl ?_
  refine Jvm.OwnWp.lload K d_prog_89_method_6_46 rfl (pc' := 48) rfl ?_
  refine retL K rfl d_prog_89_method_6_48 (Nat.le_of_ble_eq_true rfl) (Nat.le_of_ble_eq_true rfl) ?_
  exact ⟨rfl, P45, _, lt_b42, X45_f, F45_frames_f, F45_flushes_f, F45_roundTrip_f, F45_written_f, F45_flushed_f, F45_acknowledged_f, F45_carried_f, F45_carriedAt_f, Q45_X, Q45_E, Q45_Fe, Q45_Fh, Q45_Ft, Q45_V, X45_b42, F45_end_b42, F45_began_b42, F45_acknowledgedThen_b42, F45_limitThen_b42⟩
set_option maxRecDepth 65536 in
set_option maxHeartbeats 40000000 in
theorem c_mea (l : Launch) (Z : State) (a0 : Array Value) (hw : ∀ d ∈ tables_1, d.before a0 Z = true) (ws : List Jvm.Cond) (f y fr : Addr) (now e_ ac li cv ca ak : Int64) (wv : Int64) (h0 : Heap) (n0 : Nat) (Z0 : n0 ≤ h0.size) (E_f : Exa Z h0 f "com/example/adaptive_mirror/adaptivemirror/net/InFlight") (ge_f : n0 ≤ f) (ne_y_f : y ≠ f) (F_roundTrip : Fld Z h0 f "com/example/adaptive_mirror/adaptivemirror/net/InFlight" "roundTrip" "J" (.long 0)) (F_carried : Fld Z h0 f "com/example/adaptive_mirror/adaptivemirror/net/InFlight" "carried" "J" (.long cv)) (F_carriedAt : Fld Z h0 f "com/example/adaptive_mirror/adaptivemirror/net/InFlight" "carriedAt" "J" (.long ca)) (F_frames : Fld Z h0 f "com/example/adaptive_mirror/adaptivemirror/net/InFlight" "frames" "Ljava/util/Queue;" (.ref fr)) (F_acknowledged : Fld Z h0 f "com/example/adaptive_mirror/adaptivemirror/net/InFlight" "acknowledged" "J" (.long ak)) (E_y : Exa Z h0 y "com/example/adaptive_mirror/adaptivemirror/net/InFlight$Frame") (Y_end : Fld Z h0 y "com/example/adaptive_mirror/adaptivemirror/net/InFlight$Frame" "end" "J" (.long e_)) (Y_began : Fld Z h0 y "com/example/adaptive_mirror/adaptivemirror/net/InFlight$Frame" "began" "J" (.long now)) (Y_acknowledgedThen : Fld Z h0 y "com/example/adaptive_mirror/adaptivemirror/net/InFlight$Frame" "acknowledgedThen" "J" (.long ac)) (Y_limitThen : Fld Z h0 y "com/example/adaptive_mirror/adaptivemirror/net/InFlight$Frame" "limitThen" "J" (.long li)) (F_written : Fld Z h0 f "com/example/adaptive_mirror/adaptivemirror/net/InFlight" "written" "J" (.long wv)) :
    Ctr l Z (⟨"com/example/adaptive_mirror/adaptivemirror/net/InFlight", "measure", "(Lcom/example/adaptive_mirror/adaptivemirror/net/InFlight$Frame;J)V"⟩ : MethodName) prog_89_method_9_code 12 none ws ({ frames := 1, cells := 0, slots := 0, locals := 15 } : Room) n0 #[(.ref f), (.ref y), (.long now)] h0 (fun v h => v = none ∧ Keep h0 h [f] ∧ Fld Z h f "com/example/adaptive_mirror/adaptivemirror/net/InFlight" "frames" "Ljava/util/Queue;" (.ref fr) ∧ Fld Z h f "com/example/adaptive_mirror/adaptivemirror/net/InFlight" "acknowledged" "J" (.long ak) ∧ Fld Z h f "com/example/adaptive_mirror/adaptivemirror/net/InFlight" "written" "J" (.long wv) ∧ ∃ cv, Fld Z h f "com/example/adaptive_mirror/adaptivemirror/net/InFlight" "carried" "J" (.long cv)) := by
  refine ctr (own := "com/example/adaptive_mirror/adaptivemirror/net/InFlight") (nm := "measure") rfl rfl (Ls := #[.val (.ref f), .val (.ref y), .val (.long now), .second, .unset, .unset, .unset, .unset, .unset, .unset, .unset, .unset]) (plainFor_of_name pn5) (fun m => by first | (simp [entryFrame, mkF, argsToLocals, Value.category]; done) | rfl) ?_
  intro p e s m below meth c K eh
  have P0 := Keep.refl h0 [f]
  refine Jvm.OwnWp.lloadN K d_prog_89_method_9_0 rfl (pc' := 1) rfl ?_
  refine Jvm.OwnWp.aloadN K d_prog_89_method_9_1 rfl rfl (pc' := 2) rfl ?_
  refine callVirt K (y := (⟨"com/example/adaptive_mirror/adaptivemirror/net/InFlight$Frame", "began", "()J"⟩ : MethodName)) (b := y) (argsL := []) (S := [(.long now)]) (wd219 hw) (wd220 hw) (wd222 hw) (wd221 hw) (wd92 hw) (wd223 hw) (by decide) E_y (c_fra_began l Z a0 hw [] y now h0 n0 Z0 Y_began) (lenOf pd9 rfl) d_prog_89_method_9_2 rfl (Nat.le_of_ble_eq_true rfl) (Nat.le_of_ble_eq_true rfl) (Nat.le_of_ble_eq_true rfl) (Nat.le_of_ble_eq_true rfl) rfl (pc' := 5) rfl ?_
  rintro v46 h46 ⟨rfl, rfl⟩
  show Go _ _ _ _ _ _ _ _ _ _ _ h0 0 0 (mkF m 5 #[.val (.ref f), .val (.ref y), .val (.long now), .second, .unset, .unset, .unset, .unset, .unset, .unset, .unset, .unset] [(.long now), (.long now)]) _
  refine Jvm.OwnWp.lsub K d_prog_89_method_9_5 (pc' := 6) rfl ?_
  rw [Int64.sub_self]
  show Go _ _ _ _ _ _ _ _ _ _ _ h0 0 0 (mkF m 6 #[.val (.ref f), .val (.ref y), .val (.long now), .second, .unset, .unset, .unset, .unset, .unset, .unset, .unset, .unset] [(.long (0 : Int64))]) _
  refine Jvm.OwnWp.lstore K d_prog_89_method_9_6 (Ls' := #[.val (.ref f), .val (.ref y), .val (.long now), .second, .val (.long (0 : Int64)), .second, .unset, .unset, .unset, .unset, .unset, .unset]) rfl (pc' := 8) rfl ?_
  refine Jvm.OwnWp.aloadN K d_prog_89_method_9_8 rfl rfl (pc' := 9) rfl ?_
  refine callVirt K (y := (⟨"com/example/adaptive_mirror/adaptivemirror/net/InFlight$Frame", "end", "()J"⟩ : MethodName)) (b := y) (argsL := []) (S := []) (wd155 hw) (wd156 hw) (wd158 hw) (wd157 hw) (wd92 hw) (wd159 hw) (by decide) E_y (c_fra_end l Z a0 hw [] y e_ h0 n0 Z0 Y_end) (lenOf pd9 rfl) d_prog_89_method_9_9 rfl (Nat.le_of_ble_eq_true rfl) (Nat.le_of_ble_eq_true rfl) (Nat.le_of_ble_eq_true rfl) (Nat.le_of_ble_eq_true rfl) rfl (pc' := 12) rfl ?_
  rintro v47 h47 ⟨rfl, rfl⟩
  show Go _ _ _ _ _ _ _ _ _ _ _ h0 0 0 (mkF m 12 #[.val (.ref f), .val (.ref y), .val (.long now), .second, .val (.long (0 : Int64)), .second, .unset, .unset, .unset, .unset, .unset, .unset] [(.long e_)]) _
  refine Jvm.OwnWp.aloadN K d_prog_89_method_9_12 rfl rfl (pc' := 13) rfl ?_
  refine callVirt K (y := (⟨"com/example/adaptive_mirror/adaptivemirror/net/InFlight$Frame", "acknowledgedThen", "()J"⟩ : MethodName)) (b := y) (argsL := []) (S := [(.long e_)]) (wd224 hw) (wd225 hw) (wd227 hw) (wd226 hw) (wd92 hw) (wd228 hw) (by decide) E_y (c_fra_acknowledgedThen l Z a0 hw [] y ac h0 n0 Z0 Y_acknowledgedThen) (lenOf pd9 rfl) d_prog_89_method_9_13 rfl (Nat.le_of_ble_eq_true rfl) (Nat.le_of_ble_eq_true rfl) (Nat.le_of_ble_eq_true rfl) (Nat.le_of_ble_eq_true rfl) rfl (pc' := 16) rfl ?_
  rintro v48 h48 ⟨rfl, rfl⟩
  show Go _ _ _ _ _ _ _ _ _ _ _ h0 0 0 (mkF m 16 #[.val (.ref f), .val (.ref y), .val (.long now), .second, .val (.long (0 : Int64)), .second, .unset, .unset, .unset, .unset, .unset, .unset] [(.long ac), (.long e_)]) _
  refine Jvm.OwnWp.lsub K d_prog_89_method_9_16 (pc' := 17) rfl ?_
  refine Jvm.OwnWp.lstore K d_prog_89_method_9_17 (Ls' := #[.val (.ref f), .val (.ref y), .val (.long now), .second, .val (.long (0 : Int64)), .second, .val (.long (e_ - ac)), .second, .unset, .unset, .unset, .unset]) rfl (pc' := 19) rfl ?_
  refine Jvm.OwnWp.lload K d_prog_89_method_9_19 rfl (pc' := 21) rfl ?_
  refine Jvm.OwnWp.aloadN K d_prog_89_method_9_21 rfl rfl (pc' := 22) rfl ?_
  refine Jvm.OwnWp.getf K (wd34 hw) Via.refl F_roundTrip d_prog_89_method_9_22 (pc' := 25) rfl ?_
  refine Jvm.OwnWp.lcmp K d_prog_89_method_9_25 (pc' := 26) rfl ?_
  refine ifN K d_prog_89_method_9_26 (by decide) (pc' := 29) rfl ?_
  refine Jvm.OwnWp.lload K d_prog_89_method_9_29 rfl (pc' := 31) rfl ?_
  refine goto' K d_prog_89_method_9_31 (pc' := 48) (by decide) (by decide) ?_
  refine Jvm.OwnWp.lstore K d_prog_89_method_9_48 (Ls' := #[.val (.ref f), .val (.ref y), .val (.long now), .second, .val (.long (0 : Int64)), .second, .val (.long (e_ - ac)), .second, .val (.long (e_ - ac)), .second, .unset, .unset]) rfl (pc' := 50) rfl ?_
  refine Jvm.OwnWp.lload K d_prog_89_method_9_50 rfl (pc' := 52) rfl ?_
  refine Jvm.OwnWp.aloadN K d_prog_89_method_9_52 rfl rfl (pc' := 53) rfl ?_
  refine callVirt K (y := (⟨"com/example/adaptive_mirror/adaptivemirror/net/InFlight$Frame", "limitThen", "()J"⟩ : MethodName)) (b := y) (argsL := []) (S := [(.long (e_ - ac))]) (wd229 hw) (wd230 hw) (wd232 hw) (wd231 hw) (wd92 hw) (wd233 hw) (by decide) E_y (c_fra_limitThen l Z a0 hw [] y li h0 n0 Z0 Y_limitThen) (lenOf pd9 rfl) d_prog_89_method_9_53 rfl (Nat.le_of_ble_eq_true rfl) (Nat.le_of_ble_eq_true rfl) (Nat.le_of_ble_eq_true rfl) (Nat.le_of_ble_eq_true rfl) rfl (pc' := 56) rfl ?_
  rintro v49 h49 ⟨rfl, rfl⟩
  show Go _ _ _ _ _ _ _ _ _ _ _ h0 0 0 (mkF m 56 #[.val (.ref f), .val (.ref y), .val (.long now), .second, .val (.long (0 : Int64)), .second, .val (.long (e_ - ac)), .second, .val (.long (e_ - ac)), .second, .unset, .unset] [(.long li), (.long (e_ - ac))]) _
  refine callStatic K (y := (⟨"java/lang/Math", "min", "(JJ)J"⟩ : MethodName)) (argsL := [(.long (e_ - ac)), (.long li)]) (S := []) (wd212 hw) (wd213 hw) (wd104 hw) (wd214 hw) (by decide) (c_min l Z a0 hw [] (e_ - ac) li h0 n0 Z0) (lenOf pd8 rfl) d_prog_89_method_9_56 rfl (Nat.le_of_ble_eq_true rfl) (Nat.le_of_ble_eq_true rfl) (Nat.le_of_ble_eq_true rfl) (Nat.le_of_ble_eq_true rfl) rfl (pc' := 59) rfl ?_
  rintro v50 h50 ⟨rfl, rfl⟩
  show Go _ _ _ _ _ _ _ _ _ _ _ h0 0 0 (mkF m 59 #[.val (.ref f), .val (.ref y), .val (.long now), .second, .val (.long (0 : Int64)), .second, .val (.long (e_ - ac)), .second, .val (.long (e_ - ac)), .second, .unset, .unset] [(.long (if li < e_ - ac then li else e_ - ac))]) _
  generalize (if li < e_ - ac then li else e_ - ac) = mv
  refine Jvm.OwnWp.lstore K d_prog_89_method_9_59 (Ls' := #[.val (.ref f), .val (.ref y), .val (.long now), .second, .val (.long (0 : Int64)), .second, .val (.long (e_ - ac)), .second, .val (.long (e_ - ac)), .second, .val (.long mv), .second]) rfl (pc' := 61) rfl ?_
  refine Jvm.OwnWp.lload K d_prog_89_method_9_61 rfl (pc' := 63) rfl ?_
  refine Jvm.OwnWp.aloadN K d_prog_89_method_9_63 rfl rfl (pc' := 64) rfl ?_
  refine Jvm.OwnWp.getf K (wd100 hw) Via.refl F_carried d_prog_89_method_9_64 (pc' := 67) rfl ?_
  refine Jvm.OwnWp.lcmp K d_prog_89_method_9_67 (pc' := 68) rfl ?_
  by_cases c1 : mv < cv
  · refine ifN K d_prog_89_method_9_68 (XT.ll_ge_f c1) (pc' := 71) rfl ?_
    refine Jvm.OwnWp.lloadN K d_prog_89_method_9_71 rfl (pc' := 72) rfl ?_
    refine Jvm.OwnWp.aloadN K d_prog_89_method_9_72 rfl rfl (pc' := 73) rfl ?_
    refine Jvm.OwnWp.getf K (wd234 hw) Via.refl F_carriedAt d_prog_89_method_9_73 (pc' := 76) rfl ?_
    refine Jvm.OwnWp.lsub K d_prog_89_method_9_76 (pc' := 77) rfl ?_
    refine Jvm.OwnWp.ldc2J K (wd236 hw) d_prog_89_method_9_77 (pc' := 80) rfl ?_
    refine Jvm.OwnWp.aloadN K d_prog_89_method_9_80 rfl rfl (pc' := 81) rfl ?_
    refine Jvm.OwnWp.getf K (wd34 hw) Via.refl F_roundTrip d_prog_89_method_9_81 (pc' := 84) rfl ?_
    refine Jvm.OwnWp.lmul K d_prog_89_method_9_84 (pc' := 85) rfl ?_
    refine Jvm.OwnWp.lcmp K d_prog_89_method_9_85 (pc' := 86) rfl ?_
    by_cases c2 : ((10 : Int64) * (0 : Int64)) < (now - ca)
    · refine ifN K d_prog_89_method_9_86 (XT.ll_le_f c2) (pc' := 89) rfl ?_
      refine Jvm.OwnWp.aloadN K d_prog_89_method_9_89 rfl rfl (pc' := 90) rfl ?_
      refine Jvm.OwnWp.lload K d_prog_89_method_9_90 rfl (pc' := 92) rfl ?_
      refine putf K (wd100 hw) Via.refl F_carried E_f (Or.inl (wd101 hw)) (wd3 hw) (ty := .long) (by decide) rfl rfl ge_f d_prog_89_method_9_92 (pc' := 95) rfl ?_
      intro h51 W51
      have F51_written_f := (Fld.other W51 F_written (Or.inr (sn_InFlight_written_carried hw)))
      have F51_end_y := (Fld.other W51 Y_end (Or.inl ne_y_f))
      have F51_began_y := (Fld.other W51 Y_began (Or.inl ne_y_f))
      have F51_acknowledgedThen_y := (Fld.other W51 Y_acknowledgedThen (Or.inl ne_y_f))
      have F51_limitThen_y := (Fld.other W51 Y_limitThen (Or.inl ne_y_f))
      have F51_roundTrip_f := (Fld.other W51 F_roundTrip (Or.inr (sn_InFlight_roundTrip_carried hw)))
      have F51_carriedAt_f := (Fld.other W51 F_carriedAt (Or.inr (sn_InFlight_carriedAt_carried hw)))
      have F51_frames_f := (Fld.other W51 F_frames (Or.inr (sn_InFlight_frames_carried hw)))
      have F51_acknowledged_f := (Fld.other W51 F_acknowledged (Or.inr (sn_InFlight_acknowledged_carried hw)))
      have X51_f := (Exa.wr W51 E_f)
      have X51_y := (Exa.wr W51 E_y)
      have P51 := (P0.wr W51 (Or.inl (List.mem_of_getElem? (i := 0) rfl)))
      have F51_carried_f := Fld.same W51 F_carried
      refine Jvm.OwnWp.aloadN K d_prog_89_method_9_95 rfl rfl (pc' := 96) rfl ?_
      refine Jvm.OwnWp.lloadN K d_prog_89_method_9_96 rfl (pc' := 97) rfl ?_
      refine putf K (wd234 hw) Via.refl F51_carriedAt_f X51_f (Or.inl (wd235 hw)) (wd3 hw) (ty := .long) (by decide) rfl rfl ge_f d_prog_89_method_9_97 (pc' := 100) rfl ?_
      intro h52 W52
      have F52_written_f := (Fld.other W52 F51_written_f (Or.inr (sn_InFlight_written_carriedAt hw)))
      have F52_end_y := (Fld.other W52 F51_end_y (Or.inl ne_y_f))
      have F52_began_y := (Fld.other W52 F51_began_y (Or.inl ne_y_f))
      have F52_acknowledgedThen_y := (Fld.other W52 F51_acknowledgedThen_y (Or.inl ne_y_f))
      have F52_limitThen_y := (Fld.other W52 F51_limitThen_y (Or.inl ne_y_f))
      have F52_roundTrip_f := (Fld.other W52 F51_roundTrip_f (Or.inr (sn_InFlight_roundTrip_carriedAt hw)))
      have F52_carried_f := (Fld.other W52 F51_carried_f (Or.inr (sn_InFlight_carried_carriedAt hw)))
      have F52_frames_f := (Fld.other W52 F51_frames_f (Or.inr (sn_InFlight_frames_carriedAt hw)))
      have F52_acknowledged_f := (Fld.other W52 F51_acknowledged_f (Or.inr (sn_InFlight_acknowledged_carriedAt hw)))
      have X52_f := (Exa.wr W52 X51_f)
      have X52_y := (Exa.wr W52 X51_y)
      have P52 := (P51.wr W52 (Or.inl (List.mem_of_getElem? (i := 0) rfl)))
      have F52_carriedAt_f := Fld.same W52 F51_carriedAt_f
      refine retV K rfl d_prog_89_method_9_100 (Nat.le_of_ble_eq_true rfl) (Nat.le_of_ble_eq_true rfl) ?_
      exact ⟨rfl, P52, F52_frames_f, F52_acknowledged_f, F52_written_f, _, F52_carried_f⟩
    · refine ifY K d_prog_89_method_9_86 (XT.ll_le_t c2) (pc' := 100) (by decide) (by decide) ?_
      refine retV K rfl d_prog_89_method_9_100 (Nat.le_of_ble_eq_true rfl) (Nat.le_of_ble_eq_true rfl) ?_
      exact ⟨rfl, P0, F_frames, F_acknowledged, F_written, _, F_carried⟩
  · refine ifY K d_prog_89_method_9_68 (XT.ll_ge_t c1) (pc' := 89) (by decide) (by decide) ?_
    refine Jvm.OwnWp.aloadN K d_prog_89_method_9_89 rfl rfl (pc' := 90) rfl ?_
    refine Jvm.OwnWp.lload K d_prog_89_method_9_90 rfl (pc' := 92) rfl ?_
    refine putf K (wd100 hw) Via.refl F_carried E_f (Or.inl (wd101 hw)) (wd3 hw) (ty := .long) (by decide) rfl rfl ge_f d_prog_89_method_9_92 (pc' := 95) rfl ?_
    intro h53 W53
    have F53_written_f := (Fld.other W53 F_written (Or.inr (sn_InFlight_written_carried hw)))
    have F53_end_y := (Fld.other W53 Y_end (Or.inl ne_y_f))
    have F53_began_y := (Fld.other W53 Y_began (Or.inl ne_y_f))
    have F53_acknowledgedThen_y := (Fld.other W53 Y_acknowledgedThen (Or.inl ne_y_f))
    have F53_limitThen_y := (Fld.other W53 Y_limitThen (Or.inl ne_y_f))
    have F53_roundTrip_f := (Fld.other W53 F_roundTrip (Or.inr (sn_InFlight_roundTrip_carried hw)))
    have F53_carriedAt_f := (Fld.other W53 F_carriedAt (Or.inr (sn_InFlight_carriedAt_carried hw)))
    have F53_frames_f := (Fld.other W53 F_frames (Or.inr (sn_InFlight_frames_carried hw)))
    have F53_acknowledged_f := (Fld.other W53 F_acknowledged (Or.inr (sn_InFlight_acknowledged_carried hw)))
    have X53_f := (Exa.wr W53 E_f)
    have X53_y := (Exa.wr W53 E_y)
    have P53 := (P0.wr W53 (Or.inl (List.mem_of_getElem? (i := 0) rfl)))
    have F53_carried_f := Fld.same W53 F_carried
    refine Jvm.OwnWp.aloadN K d_prog_89_method_9_95 rfl rfl (pc' := 96) rfl ?_
    refine Jvm.OwnWp.lloadN K d_prog_89_method_9_96 rfl (pc' := 97) rfl ?_
    refine putf K (wd234 hw) Via.refl F53_carriedAt_f X53_f (Or.inl (wd235 hw)) (wd3 hw) (ty := .long) (by decide) rfl rfl ge_f d_prog_89_method_9_97 (pc' := 100) rfl ?_
    intro h54 W54
    have F54_written_f := (Fld.other W54 F53_written_f (Or.inr (sn_InFlight_written_carriedAt hw)))
    have F54_end_y := (Fld.other W54 F53_end_y (Or.inl ne_y_f))
    have F54_began_y := (Fld.other W54 F53_began_y (Or.inl ne_y_f))
    have F54_acknowledgedThen_y := (Fld.other W54 F53_acknowledgedThen_y (Or.inl ne_y_f))
    have F54_limitThen_y := (Fld.other W54 F53_limitThen_y (Or.inl ne_y_f))
    have F54_roundTrip_f := (Fld.other W54 F53_roundTrip_f (Or.inr (sn_InFlight_roundTrip_carriedAt hw)))
    have F54_carried_f := (Fld.other W54 F53_carried_f (Or.inr (sn_InFlight_carried_carriedAt hw)))
    have F54_frames_f := (Fld.other W54 F53_frames_f (Or.inr (sn_InFlight_frames_carriedAt hw)))
    have F54_acknowledged_f := (Fld.other W54 F53_acknowledged_f (Or.inr (sn_InFlight_acknowledged_carriedAt hw)))
    have X54_f := (Exa.wr W54 X53_f)
    have X54_y := (Exa.wr W54 X53_y)
    have P54 := (P53.wr W54 (Or.inl (List.mem_of_getElem? (i := 0) rfl)))
    have F54_carriedAt_f := Fld.same W54 F53_carriedAt_f
    refine retV K rfl d_prog_89_method_9_100 (Nat.le_of_ble_eq_true rfl) (Nat.le_of_ble_eq_true rfl) ?_
    exact ⟨rfl, P54, F54_frames_f, F54_acknowledged_f, F54_written_f, _, F54_carried_f⟩
set_option maxRecDepth 65536 in
set_option maxHeartbeats 40000000 in
theorem c_ack1 (l : Launch) (Z : State) (a0 : Array Value) (hw : ∀ d ∈ tables_1, d.before a0 Z = true) (ws : List Jvm.Cond) (f fr fe fu ue x y : Addr) (hh ss q now : Int64) (h0 : Heap) (n0 : Nat) (Z0 : n0 ≤ h0.size) (h1 : ¬ q < 0) (h2 : ¬ (hh + ss) < q) (h3 : q < hh → q < hh + ss) (E_f : Exa Z h0 f "com/example/adaptive_mirror/adaptivemirror/net/InFlight") (F_frames : Fld Z h0 f "com/example/adaptive_mirror/adaptivemirror/net/InFlight" "frames" "Ljava/util/Queue;" (.ref fr)) (F_flushes : Fld Z h0 f "com/example/adaptive_mirror/adaptivemirror/net/InFlight" "flushes" "Ljava/util/Queue;" (.ref fu)) (F_roundTrip : Fld Z h0 f "com/example/adaptive_mirror/adaptivemirror/net/InFlight" "roundTrip" "J" (.long 9223372036854775807)) (F_written : Fld Z h0 f "com/example/adaptive_mirror/adaptivemirror/net/InFlight" "written" "J" (.long (hh + ss))) (F_flushed : Fld Z h0 f "com/example/adaptive_mirror/adaptivemirror/net/InFlight" "flushed" "J" (.long hh)) (F_acknowledged : Fld Z h0 f "com/example/adaptive_mirror/adaptivemirror/net/InFlight" "acknowledged" "J" (.long 0)) (F_carried : Fld Z h0 f "com/example/adaptive_mirror/adaptivemirror/net/InFlight" "carried" "J" (.long 0)) (F_carriedAt : Fld Z h0 f "com/example/adaptive_mirror/adaptivemirror/net/InFlight" "carriedAt" "J" (.long 0)) (rX : Exa Z h0 fe "[Ljava/lang/Object;") (rE : Exa Z h0 fr "java/util/ArrayDeque") (rFe : Fld Z h0 fr "java/util/ArrayDeque" "elements" "[Ljava/lang/Object;" (.ref fe)) (rFh : Fld Z h0 fr "java/util/ArrayDeque" "head" "I" (.int 0)) (rFt : Fld Z h0 fr "java/util/ArrayDeque" "tail" "I" (.int 1)) (rV : VecR Z h0 fe "java/lang/Object" [.ref y, .null]) (uX : Exa Z h0 ue "[Ljava/lang/Object;") (uE : Exa Z h0 fu "java/util/ArrayDeque") (uFe : Fld Z h0 fu "java/util/ArrayDeque" "elements" "[Ljava/lang/Object;" (.ref ue)) (uFh : Fld Z h0 fu "java/util/ArrayDeque" "head" "I" (.int 0)) (uFt : Fld Z h0 fu "java/util/ArrayDeque" "tail" "I" (.int 1)) (uV : VecR Z h0 ue "java/lang/Object" [.ref x, .null]) (E_x : Exa Z h0 x "com/example/adaptive_mirror/adaptivemirror/net/InFlight$Flush") (X_end : Fld Z h0 x "com/example/adaptive_mirror/adaptivemirror/net/InFlight$Flush" "end" "J" (.long hh)) (X_at : Fld Z h0 x "com/example/adaptive_mirror/adaptivemirror/net/InFlight$Flush" "at" "J" (.long now)) (E_y : Exa Z h0 y "com/example/adaptive_mirror/adaptivemirror/net/InFlight$Frame") (Y_end : Fld Z h0 y "com/example/adaptive_mirror/adaptivemirror/net/InFlight$Frame" "end" "J" (.long (hh + ss))) (Y_began : Fld Z h0 y "com/example/adaptive_mirror/adaptivemirror/net/InFlight$Frame" "began" "J" (.long now)) (Y_acknowledgedThen : Fld Z h0 y "com/example/adaptive_mirror/adaptivemirror/net/InFlight$Frame" "acknowledgedThen" "J" (.long 0)) (Y_limitThen : Fld Z h0 y "com/example/adaptive_mirror/adaptivemirror/net/InFlight$Frame" "limitThen" "J" (.long 65536)) (ne_fr_f : fr ≠ f) (ne_fe_f : fe ≠ f) (ne_fu_f : fu ≠ f) (ne_ue_f : ue ≠ f) (ne_x_f : x ≠ f) (ne_y_f : y ≠ f) (ne_fe_fr : fe ≠ fr) (ne_fu_fr : fu ≠ fr) (ne_ue_fr : ue ≠ fr) (ne_x_fr : x ≠ fr) (ne_y_fr : y ≠ fr) (ne_fu_fe : fu ≠ fe) (ne_ue_fe : ue ≠ fe) (ne_x_fe : x ≠ fe) (ne_y_fe : y ≠ fe) (ne_ue_fu : ue ≠ fu) (ne_x_fu : x ≠ fu) (ne_y_fu : y ≠ fu) (ne_x_ue : x ≠ ue) (ne_y_ue : y ≠ ue) (ne_y_x : y ≠ x) (ge_f : n0 ≤ f) (ge_fr : n0 ≤ fr) (ge_fe : n0 ≤ fe) (ge_fu : n0 ≤ fu) (ge_ue : n0 ≤ ue) :
    Ctr l Z (⟨"com/example/adaptive_mirror/adaptivemirror/net/InFlight", "acknowledged", "(JJ)I"⟩ : MethodName) prog_89_method_8_code 6 (some .int) ws ({ frames := 4, cells := 0, slots := 0, locals := 59 } : Room) n0 #[(.ref f), (.long q), (.long now)] h0 (fun v h => ∃ z : Int32, v = some (.int z) ∧ Keep h0 h [f, fr, fe, fu, ue] ∧ Fld Z h f "com/example/adaptive_mirror/adaptivemirror/net/InFlight" "acknowledged" "J" (.long q) ∧ Fld Z h f "com/example/adaptive_mirror/adaptivemirror/net/InFlight" "frames" "Ljava/util/Queue;" (.ref fr) ∧ Fld Z h f "com/example/adaptive_mirror/adaptivemirror/net/InFlight" "written" "J" (.long (hh + ss)) ∧ (∃ cv, Fld Z h f "com/example/adaptive_mirror/adaptivemirror/net/InFlight" "carried" "J" (.long cv)) ∧ ((Exa Z h fe "[Ljava/lang/Object;" ∧ Exa Z h fr "java/util/ArrayDeque" ∧ Fld Z h fr "java/util/ArrayDeque" "elements" "[Ljava/lang/Object;" (.ref fe) ∧ Fld Z h fr "java/util/ArrayDeque" "head" "I" (.int 0) ∧ Fld Z h fr "java/util/ArrayDeque" "tail" "I" (.int 1) ∧ VecR Z h fe "java/lang/Object" [.ref y, .null]) ∨ (Exa Z h fe "[Ljava/lang/Object;" ∧ Exa Z h fr "java/util/ArrayDeque" ∧ Fld Z h fr "java/util/ArrayDeque" "elements" "[Ljava/lang/Object;" (.ref fe) ∧ Fld Z h fr "java/util/ArrayDeque" "head" "I" (.int 1) ∧ Fld Z h fr "java/util/ArrayDeque" "tail" "I" (.int 1) ∧ VecR Z h fe "java/lang/Object" [.null, .null]))) := by
  refine ctr (own := "com/example/adaptive_mirror/adaptivemirror/net/InFlight") (nm := "acknowledged") rfl rfl (Ls := #[.val (.ref f), .val (.long q), .second, .val (.long now), .second, .unset]) (plainFor_of_name pn5) (fun m => by first | (simp [entryFrame, mkF, argsToLocals, Value.category]; done) | rfl) ?_
  intro p e s m below meth c K eh
  have P0 := Keep.refl h0 [f, fr, fe, fu, ue]
  refine Jvm.OwnWp.lloadN K d_prog_89_method_8_0 rfl (pc' := 1) rfl ?_
  refine Jvm.OwnWp.aloadN K d_prog_89_method_8_1 rfl rfl (pc' := 2) rfl ?_
  refine Jvm.OwnWp.getf K (wd83 hw) Via.refl F_acknowledged d_prog_89_method_8_2 (pc' := 5) rfl ?_
  refine Jvm.OwnWp.lcmp K d_prog_89_method_8_5 (pc' := 6) rfl ?_
  refine ifN K d_prog_89_method_8_6 (XT.ll_lt_f h1) (pc' := 9) rfl ?_
  refine Jvm.OwnWp.lloadN K d_prog_89_method_8_9 rfl (pc' := 10) rfl ?_
  refine Jvm.OwnWp.aloadN K d_prog_89_method_8_10 rfl rfl (pc' := 11) rfl ?_
  refine Jvm.OwnWp.getf K (wd36 hw) Via.refl F_written d_prog_89_method_8_11 (pc' := 14) rfl ?_
  refine Jvm.OwnWp.lcmp K d_prog_89_method_8_14 (pc' := 15) rfl ?_
  refine ifY K d_prog_89_method_8_15 (XT.ll_le_t h2) (pc' := 40) (by decide) (by decide) ?_
  refine Jvm.OwnWp.aloadN K d_prog_89_method_8_40 rfl rfl (pc' := 41) rfl ?_
  refine Jvm.OwnWp.lloadN K d_prog_89_method_8_41 rfl (pc' := 42) rfl ?_
  refine putf K (wd83 hw) Via.refl F_acknowledged E_f (Or.inl (wd84 hw)) (wd3 hw) (ty := .long) (by decide) rfl rfl ge_f d_prog_89_method_8_42 (pc' := 45) rfl ?_
  intro h55 W55
  have F55_frames_f := (Fld.other W55 F_frames (Or.inr (sn_InFlight_frames_acknowledged hw)))
  have F55_flushes_f := (Fld.other W55 F_flushes (Or.inr (sn_InFlight_flushes_acknowledged hw)))
  have F55_roundTrip_f := (Fld.other W55 F_roundTrip (Or.inr (sn_InFlight_roundTrip_acknowledged hw)))
  have F55_written_f := (Fld.other W55 F_written (Or.inr (sn_InFlight_written_acknowledged hw)))
  have F55_flushed_f := (Fld.other W55 F_flushed (Or.inr (sn_InFlight_flushed_acknowledged hw)))
  have F55_carried_f := (Fld.other W55 F_carried (Or.inr (sn_InFlight_carried_acknowledged hw)))
  have F55_carriedAt_f := (Fld.other W55 F_carriedAt (Or.inr (sn_InFlight_carriedAt_acknowledged hw)))
  have F55_elements_fr := (Fld.other W55 rFe (Or.inl ne_fr_f))
  have F55_head_fr := (Fld.other W55 rFh (Or.inl ne_fr_f))
  have F55_tail_fr := (Fld.other W55 rFt (Or.inl ne_fr_f))
  have F55_elements_fu := (Fld.other W55 uFe (Or.inl ne_fu_f))
  have F55_head_fu := (Fld.other W55 uFh (Or.inl ne_fu_f))
  have F55_tail_fu := (Fld.other W55 uFt (Or.inl ne_fu_f))
  have F55_end_x := (Fld.other W55 X_end (Or.inl ne_x_f))
  have F55_at_x := (Fld.other W55 X_at (Or.inl ne_x_f))
  have F55_end_y := (Fld.other W55 Y_end (Or.inl ne_y_f))
  have F55_began_y := (Fld.other W55 Y_began (Or.inl ne_y_f))
  have F55_acknowledgedThen_y := (Fld.other W55 Y_acknowledgedThen (Or.inl ne_y_f))
  have F55_limitThen_y := (Fld.other W55 Y_limitThen (Or.inl ne_y_f))
  have X55_f := (Exa.wr W55 E_f)
  have X55_fr := (Exa.wr W55 rE)
  have X55_fe := (Exa.wr W55 rX)
  have X55_fu := (Exa.wr W55 uE)
  have X55_ue := (Exa.wr W55 uX)
  have X55_x := (Exa.wr W55 E_x)
  have X55_y := (Exa.wr W55 E_y)
  have V55_fe := (rV.other W55 ne_fe_f)
  have V55_ue := (uV.other W55 ne_ue_f)
  have P55 := (P0.wr W55 (Or.inl (List.mem_of_getElem? (i := 0) rfl)))
  have F55_acknowledged_f := Fld.same W55 F_acknowledged
  refine Jvm.OwnWp.aloadN K d_prog_89_method_8_45 rfl rfl (pc' := 46) rfl ?_
  refine Jvm.OwnWp.getf K (wd31 hw) Via.refl F55_flushes_f d_prog_89_method_8_46 (pc' := 49) rfl ?_
  refine callFaceUp K (y := (⟨"java/util/Queue", "isEmpty", "()Z"⟩ : MethodName)) (z := (⟨"java/util/ArrayDeque", "isEmpty", "()Z"⟩ : MethodName)) (J := "java/util/Collection") (b := fu) (argsL := []) (S := []) (wd124 hw) (wd125 hw) (wd126 hw) (by decide) (by decide) (wd127 hw) (wd128 hw) (wd129 hw) (wd130 hw) (wd63 hw) (wd13 hw) (wd131 hw) (by decide) X55_fu (c_demp l Z a0 hw [] fu (0 : Int32) (1 : Int32) h55 n0 (Nat.le_trans Z0 P55.1) F55_head_fu F55_tail_fu) (lenOf pd11 rfl) d_prog_89_method_8_49 rfl (Nat.le_of_ble_eq_true rfl) (Nat.le_of_ble_eq_true rfl) (Nat.le_of_ble_eq_true rfl) (Nat.le_of_ble_eq_true rfl) rfl (pc' := 54) rfl ?_
  rintro v56 h56 ⟨rfl, rfl⟩
  show Go _ _ _ _ _ _ _ _ _ _ _ h55 0 0 (mkF m 54 #[.val (.ref f), .val (.long q), .second, .val (.long now), .second, .unset] [(.int (if (0 : Int32) = (1 : Int32) then 1 else 0))]) _
  rw [show (if (0 : Int32) = (1 : Int32) then (1 : Int32) else 0) = 0 from by decide]
  refine ifN K d_prog_89_method_8_54 (by decide) (pc' := 57) rfl ?_
  refine Jvm.OwnWp.aloadN K d_prog_89_method_8_57 rfl rfl (pc' := 58) rfl ?_
  refine Jvm.OwnWp.getf K (wd31 hw) Via.refl F55_flushes_f d_prog_89_method_8_58 (pc' := 61) rfl ?_
  refine callFace K (y := (⟨"java/util/Queue", "peek", "()Ljava/lang/Object;"⟩ : MethodName)) (z := (⟨"java/util/ArrayDeque", "peek", "()Ljava/lang/Object;"⟩ : MethodName)) (b := fu) (argsL := []) (S := []) (wd132 hw) (wd133 hw) (wd134 hw) (by first | rfl | simp [Cond.onTables, Cond.keepsFace, Cond.keeps, Cond.steady, Cond.faceAtom]) (wd135 hw) (wd136 hw) (wd137 hw) (wd138 hw) (wd63 hw) (wd13 hw) (wd139 hw) (by decide) X55_fu (c_pk l Z a0 hw [] fu ue x h55 n0 (Nat.le_trans Z0 P55.1) X55_ue X55_fu F55_elements_fu F55_head_fu F55_tail_fu V55_ue) (lenOf pd4 rfl) d_prog_89_method_8_61 rfl (Nat.le_of_ble_eq_true rfl) (Nat.le_of_ble_eq_true rfl) (Nat.le_of_ble_eq_true rfl) (Nat.le_of_ble_eq_true rfl) rfl (pc' := 66) rfl ?_
  rintro v57 h57 ⟨rfl, rfl⟩
  show Go _ _ _ _ _ _ _ _ _ _ _ h55 0 0 (mkF m 66 #[.val (.ref f), .val (.long q), .second, .val (.long now), .second, .unset] [(.ref x)]) _
  refine Jvm.OwnWp.cast' K (wd40 hw) (Ins.self X55_x) d_prog_89_method_8_66 (pc' := 69) rfl ?_
  refine callVirt K (y := (⟨"com/example/adaptive_mirror/adaptivemirror/net/InFlight$Flush", "end", "()J"⟩ : MethodName)) (b := x) (argsL := []) (S := []) (wd149 hw) (wd150 hw) (wd152 hw) (wd151 hw) (wd42 hw) (wd153 hw) (by decide) X55_x (c_flu_end l Z a0 hw [] x hh h55 n0 (Nat.le_trans Z0 P55.1) F55_end_x) (lenOf pd9 rfl) d_prog_89_method_8_69 rfl (Nat.le_of_ble_eq_true rfl) (Nat.le_of_ble_eq_true rfl) (Nat.le_of_ble_eq_true rfl) (Nat.le_of_ble_eq_true rfl) rfl (pc' := 72) rfl ?_
  rintro v58 h58 ⟨rfl, rfl⟩
  show Go _ _ _ _ _ _ _ _ _ _ _ h55 0 0 (mkF m 72 #[.val (.ref f), .val (.long q), .second, .val (.long now), .second, .unset] [(.long hh)]) _
  refine Jvm.OwnWp.lloadN K d_prog_89_method_8_72 rfl (pc' := 73) rfl ?_
  refine Jvm.OwnWp.lcmp K d_prog_89_method_8_73 (pc' := 74) rfl ?_
  by_cases c1 : q < hh
  · refine ifY K d_prog_89_method_8_74 (XT.ll_gt_t c1) (pc' := 108) (by decide) (by decide) ?_
    refine Jvm.OwnWp.iconst K (0 : Int32) d_prog_89_method_8_108 (by decide) (pc' := 109) rfl ?_
    refine Jvm.OwnWp.istore K d_prog_89_method_8_109 (Ls' := #[.val (.ref f), .val (.long q), .second, .val (.long now), .second, .val (.int (0 : Int32))]) rfl (pc' := 111) rfl ?_
    refine Jvm.OwnWp.aloadN K d_prog_89_method_8_111 rfl rfl (pc' := 112) rfl ?_
    refine Jvm.OwnWp.getf K (wd29 hw) Via.refl F55_frames_f d_prog_89_method_8_112 (pc' := 115) rfl ?_
    refine callFaceUp K (y := (⟨"java/util/Queue", "isEmpty", "()Z"⟩ : MethodName)) (z := (⟨"java/util/ArrayDeque", "isEmpty", "()Z"⟩ : MethodName)) (J := "java/util/Collection") (b := fr) (argsL := []) (S := []) (wd124 hw) (wd125 hw) (wd126 hw) (by decide) (by decide) (wd127 hw) (wd128 hw) (wd129 hw) (wd130 hw) (wd63 hw) (wd13 hw) (wd131 hw) (by decide) X55_fr (c_demp l Z a0 hw [] fr (0 : Int32) (1 : Int32) h55 n0 (Nat.le_trans Z0 P55.1) F55_head_fr F55_tail_fr) (lenOf pd11 rfl) d_prog_89_method_8_115 rfl (Nat.le_of_ble_eq_true rfl) (Nat.le_of_ble_eq_true rfl) (Nat.le_of_ble_eq_true rfl) (Nat.le_of_ble_eq_true rfl) rfl (pc' := 120) rfl ?_
    rintro v59 h59 ⟨rfl, rfl⟩
    show Go _ _ _ _ _ _ _ _ _ _ _ h55 0 0 (mkF m 120 #[.val (.ref f), .val (.long q), .second, .val (.long now), .second, .val (.int (0 : Int32))] [(.int (if (0 : Int32) = (1 : Int32) then 1 else 0))]) _
    rw [show (if (0 : Int32) = (1 : Int32) then (1 : Int32) else 0) = 0 from by decide]
    refine ifN K d_prog_89_method_8_120 (by decide) (pc' := 123) rfl ?_
    refine Jvm.OwnWp.aloadN K d_prog_89_method_8_123 rfl rfl (pc' := 124) rfl ?_
    refine Jvm.OwnWp.getf K (wd29 hw) Via.refl F55_frames_f d_prog_89_method_8_124 (pc' := 127) rfl ?_
    refine callFace K (y := (⟨"java/util/Queue", "peek", "()Ljava/lang/Object;"⟩ : MethodName)) (z := (⟨"java/util/ArrayDeque", "peek", "()Ljava/lang/Object;"⟩ : MethodName)) (b := fr) (argsL := []) (S := []) (wd132 hw) (wd133 hw) (wd134 hw) (by first | rfl | simp [Cond.onTables, Cond.keepsFace, Cond.keeps, Cond.steady, Cond.faceAtom]) (wd135 hw) (wd136 hw) (wd137 hw) (wd138 hw) (wd63 hw) (wd13 hw) (wd139 hw) (by decide) X55_fr (c_pk l Z a0 hw [] fr fe y h55 n0 (Nat.le_trans Z0 P55.1) X55_fe X55_fr F55_elements_fr F55_head_fr F55_tail_fr V55_fe) (lenOf pd4 rfl) d_prog_89_method_8_127 rfl (Nat.le_of_ble_eq_true rfl) (Nat.le_of_ble_eq_true rfl) (Nat.le_of_ble_eq_true rfl) (Nat.le_of_ble_eq_true rfl) rfl (pc' := 132) rfl ?_
    rintro v60 h60 ⟨rfl, rfl⟩
    show Go _ _ _ _ _ _ _ _ _ _ _ h55 0 0 (mkF m 132 #[.val (.ref f), .val (.long q), .second, .val (.long now), .second, .val (.int (0 : Int32))] [(.ref y)]) _
    refine Jvm.OwnWp.cast' K (wd90 hw) (Ins.self X55_y) d_prog_89_method_8_132 (pc' := 135) rfl ?_
    refine callVirt K (y := (⟨"com/example/adaptive_mirror/adaptivemirror/net/InFlight$Frame", "end", "()J"⟩ : MethodName)) (b := y) (argsL := []) (S := []) (wd155 hw) (wd156 hw) (wd158 hw) (wd157 hw) (wd92 hw) (wd159 hw) (by decide) X55_y (c_fra_end l Z a0 hw [] y (hh + ss) h55 n0 (Nat.le_trans Z0 P55.1) F55_end_y) (lenOf pd9 rfl) d_prog_89_method_8_135 rfl (Nat.le_of_ble_eq_true rfl) (Nat.le_of_ble_eq_true rfl) (Nat.le_of_ble_eq_true rfl) (Nat.le_of_ble_eq_true rfl) rfl (pc' := 138) rfl ?_
    rintro v61 h61 ⟨rfl, rfl⟩
    show Go _ _ _ _ _ _ _ _ _ _ _ h55 0 0 (mkF m 138 #[.val (.ref f), .val (.long q), .second, .val (.long now), .second, .val (.int (0 : Int32))] [(.long (hh + ss))]) _
    refine Jvm.OwnWp.lloadN K d_prog_89_method_8_138 rfl (pc' := 139) rfl ?_
    refine Jvm.OwnWp.lcmp K d_prog_89_method_8_139 (pc' := 140) rfl ?_
    refine ifY K d_prog_89_method_8_140 (XT.ll_gt_t (h3 c1)) (pc' := 166) (by decide) (by decide) ?_
    refine Jvm.OwnWp.iload K d_prog_89_method_8_166 rfl (pc' := 168) rfl ?_
    refine retI K rfl d_prog_89_method_8_168 (Nat.le_of_ble_eq_true rfl) (Nat.le_of_ble_eq_true rfl) ?_
    exact ⟨_, rfl, P55, F55_acknowledged_f, F55_frames_f, F55_written_f, ⟨_, F55_carried_f⟩, Or.inl ⟨X55_fe, X55_fr, F55_elements_fr, F55_head_fr, F55_tail_fr, V55_fe⟩⟩
  · refine ifN K d_prog_89_method_8_74 (XT.ll_gt_f c1) (pc' := 77) rfl ?_
    refine Jvm.OwnWp.aloadN K d_prog_89_method_8_77 rfl rfl (pc' := 78) rfl ?_
    refine Jvm.OwnWp.aloadN K d_prog_89_method_8_78 rfl rfl (pc' := 79) rfl ?_
    refine Jvm.OwnWp.getf K (wd34 hw) Via.refl F55_roundTrip_f d_prog_89_method_8_79 (pc' := 82) rfl ?_
    refine Jvm.OwnWp.lloadN K d_prog_89_method_8_82 rfl (pc' := 83) rfl ?_
    refine Jvm.OwnWp.aloadN K d_prog_89_method_8_83 rfl rfl (pc' := 84) rfl ?_
    refine Jvm.OwnWp.getf K (wd31 hw) Via.refl F55_flushes_f d_prog_89_method_8_84 (pc' := 87) rfl ?_
    refine callFace K (y := (⟨"java/util/Queue", "remove", "()Ljava/lang/Object;"⟩ : MethodName)) (z := (⟨"java/util/ArrayDeque", "remove", "()Ljava/lang/Object;"⟩ : MethodName)) (b := fu) (argsL := []) (S := [(.long now), (.long (9223372036854775807 : Int64)), (.ref f)]) (wd189 hw) (wd190 hw) (wd191 hw) (by first | rfl | simp [Cond.onTables, Cond.keepsFace, Cond.keeps, Cond.steady, Cond.faceAtom]) (wd192 hw) (wd193 hw) (wd194 hw) (wd195 hw) (wd63 hw) (wd13 hw) (wd196 hw) (by decide) X55_fu (c_rm l Z a0 hw [] fu ue x h55 n0 (Nat.le_trans Z0 P55.1) X55_ue X55_fu F55_elements_fu F55_head_fu F55_tail_fu V55_ue ge_fu ge_ue ne_ue_fu) (lenOf pd4 rfl) d_prog_89_method_8_87 rfl (Nat.le_of_ble_eq_true rfl) (Nat.le_of_ble_eq_true rfl) (Nat.le_of_ble_eq_true rfl) (Nat.le_of_ble_eq_true rfl) rfl (pc' := 92) rfl ?_
    rintro v62 h62 ⟨rfl, K62, Q62_X, Q62_E, Q62_Fe, Q62_Fh, Q62_Ft, Q62_V⟩
    have F62_frames_f := (Fld.keep F55_frames_f K62 (ninS (Ne.symm ne_fu_f) (ninS (Ne.symm ne_ue_f) (nin0))))
    have F62_flushes_f := (Fld.keep F55_flushes_f K62 (ninS (Ne.symm ne_fu_f) (ninS (Ne.symm ne_ue_f) (nin0))))
    have F62_roundTrip_f := (Fld.keep F55_roundTrip_f K62 (ninS (Ne.symm ne_fu_f) (ninS (Ne.symm ne_ue_f) (nin0))))
    have F62_written_f := (Fld.keep F55_written_f K62 (ninS (Ne.symm ne_fu_f) (ninS (Ne.symm ne_ue_f) (nin0))))
    have F62_flushed_f := (Fld.keep F55_flushed_f K62 (ninS (Ne.symm ne_fu_f) (ninS (Ne.symm ne_ue_f) (nin0))))
    have F62_acknowledged_f := (Fld.keep F55_acknowledged_f K62 (ninS (Ne.symm ne_fu_f) (ninS (Ne.symm ne_ue_f) (nin0))))
    have F62_carried_f := (Fld.keep F55_carried_f K62 (ninS (Ne.symm ne_fu_f) (ninS (Ne.symm ne_ue_f) (nin0))))
    have F62_carriedAt_f := (Fld.keep F55_carriedAt_f K62 (ninS (Ne.symm ne_fu_f) (ninS (Ne.symm ne_ue_f) (nin0))))
    have F62_elements_fr := (Fld.keep F55_elements_fr K62 (ninS (Ne.symm ne_fu_fr) (ninS (Ne.symm ne_ue_fr) (nin0))))
    have F62_head_fr := (Fld.keep F55_head_fr K62 (ninS (Ne.symm ne_fu_fr) (ninS (Ne.symm ne_ue_fr) (nin0))))
    have F62_tail_fr := (Fld.keep F55_tail_fr K62 (ninS (Ne.symm ne_fu_fr) (ninS (Ne.symm ne_ue_fr) (nin0))))
    have F62_end_x := (Fld.keep F55_end_x K62 (ninS ne_x_fu (ninS ne_x_ue (nin0))))
    have F62_at_x := (Fld.keep F55_at_x K62 (ninS ne_x_fu (ninS ne_x_ue (nin0))))
    have F62_end_y := (Fld.keep F55_end_y K62 (ninS ne_y_fu (ninS ne_y_ue (nin0))))
    have F62_began_y := (Fld.keep F55_began_y K62 (ninS ne_y_fu (ninS ne_y_ue (nin0))))
    have F62_acknowledgedThen_y := (Fld.keep F55_acknowledgedThen_y K62 (ninS ne_y_fu (ninS ne_y_ue (nin0))))
    have F62_limitThen_y := (Fld.keep F55_limitThen_y K62 (ninS ne_y_fu (ninS ne_y_ue (nin0))))
    have X62_f := (Exa.keep X55_f K62)
    have X62_fr := (Exa.keep X55_fr K62)
    have X62_fe := (Exa.keep X55_fe K62)
    have X62_fu := (Exa.keep X55_fu K62)
    have X62_ue := (Exa.keep X55_ue K62)
    have X62_x := (Exa.keep X55_x K62)
    have X62_y := (Exa.keep X55_y K62)
    have V62_fe := (V55_fe.keep K62 (ninS (Ne.symm ne_fu_fe) (ninS (Ne.symm ne_ue_fe) (nin0))))
    have P62 := (P55.trans K62 (allS (Or.inl (List.mem_of_getElem? (i := 3) rfl)) (allS (Or.inl (List.mem_of_getElem? (i := 4) rfl)) (all0))))
    show Go _ _ _ _ _ _ _ _ _ _ _ h62 0 0 (mkF m 92 #[.val (.ref f), .val (.long q), .second, .val (.long now), .second, .unset] [(.ref x), (.long now), (.long (9223372036854775807 : Int64)), (.ref f)]) _
    refine Jvm.OwnWp.cast' K (wd40 hw) (Ins.self X62_x) d_prog_89_method_8_92 (pc' := 95) rfl ?_
    refine callVirt K (y := (⟨"com/example/adaptive_mirror/adaptivemirror/net/InFlight$Flush", "at", "()J"⟩ : MethodName)) (b := x) (argsL := []) (S := [(.long now), (.long (9223372036854775807 : Int64)), (.ref f)]) (wd207 hw) (wd208 hw) (wd210 hw) (wd209 hw) (wd42 hw) (wd211 hw) (by decide) X62_x (c_flu_at l Z a0 hw [] x now h62 n0 (Nat.le_trans Z0 P62.1) F62_at_x) (lenOf pd9 rfl) d_prog_89_method_8_95 rfl (Nat.le_of_ble_eq_true rfl) (Nat.le_of_ble_eq_true rfl) (Nat.le_of_ble_eq_true rfl) (Nat.le_of_ble_eq_true rfl) rfl (pc' := 98) rfl ?_
    rintro v63 h63 ⟨rfl, rfl⟩
    show Go _ _ _ _ _ _ _ _ _ _ _ h62 0 0 (mkF m 98 #[.val (.ref f), .val (.long q), .second, .val (.long now), .second, .unset] [(.long now), (.long now), (.long (9223372036854775807 : Int64)), (.ref f)]) _
    refine Jvm.OwnWp.lsub K d_prog_89_method_8_98 (pc' := 99) rfl ?_
    rw [Int64.sub_self]
    show Go _ _ _ _ _ _ _ _ _ _ _ h62 0 0 (mkF m 99 #[.val (.ref f), .val (.long q), .second, .val (.long now), .second, .unset] [(.long (0 : Int64)), (.long (9223372036854775807 : Int64)), (.ref f)]) _
    refine callStatic K (y := (⟨"java/lang/Math", "min", "(JJ)J"⟩ : MethodName)) (argsL := [(.long (9223372036854775807 : Int64)), (.long (0 : Int64))]) (S := [(.ref f)]) (wd212 hw) (wd213 hw) (wd104 hw) (wd214 hw) (by decide) (c_min l Z a0 hw [] 9223372036854775807 0 h62 n0 (Nat.le_trans Z0 P62.1)) (lenOf pd8 rfl) d_prog_89_method_8_99 rfl (Nat.le_of_ble_eq_true rfl) (Nat.le_of_ble_eq_true rfl) (Nat.le_of_ble_eq_true rfl) (Nat.le_of_ble_eq_true rfl) rfl (pc' := 102) rfl ?_
    rintro v64 h64 ⟨rfl, rfl⟩
    show Go _ _ _ _ _ _ _ _ _ _ _ h62 0 0 (mkF m 102 #[.val (.ref f), .val (.long q), .second, .val (.long now), .second, .unset] [(.long (if (0 : Int64) < (9223372036854775807 : Int64) then 0 else (9223372036854775807 : Int64))), (.ref f)]) _
    rw [show (if (0 : Int64) < (9223372036854775807 : Int64) then 0 else (9223372036854775807 : Int64)) = 0 from by decide]
    show Go _ _ _ _ _ _ _ _ _ _ _ h62 0 0 (mkF m 102 #[.val (.ref f), .val (.long q), .second, .val (.long now), .second, .unset] [(.long (0 : Int64)), (.ref f)]) _
    refine putf K (wd34 hw) Via.refl F62_roundTrip_f X62_f (Or.inl (wd35 hw)) (wd3 hw) (ty := .long) (by decide) rfl rfl ge_f d_prog_89_method_8_102 (pc' := 105) rfl ?_
    intro h65 W65
    have F65_frames_f := (Fld.other W65 F62_frames_f (Or.inr (sn_InFlight_frames_roundTrip hw)))
    have F65_flushes_f := (Fld.other W65 F62_flushes_f (Or.inr (sn_InFlight_flushes_roundTrip hw)))
    have F65_written_f := (Fld.other W65 F62_written_f (Or.inr (sn_InFlight_written_roundTrip hw)))
    have F65_flushed_f := (Fld.other W65 F62_flushed_f (Or.inr (sn_InFlight_flushed_roundTrip hw)))
    have F65_acknowledged_f := (Fld.other W65 F62_acknowledged_f (Or.inr (sn_InFlight_acknowledged_roundTrip hw)))
    have F65_carried_f := (Fld.other W65 F62_carried_f (Or.inr (sn_InFlight_carried_roundTrip hw)))
    have F65_carriedAt_f := (Fld.other W65 F62_carriedAt_f (Or.inr (sn_InFlight_carriedAt_roundTrip hw)))
    have F65_elements_fr := (Fld.other W65 F62_elements_fr (Or.inl ne_fr_f))
    have F65_head_fr := (Fld.other W65 F62_head_fr (Or.inl ne_fr_f))
    have F65_tail_fr := (Fld.other W65 F62_tail_fr (Or.inl ne_fr_f))
    have F65_end_x := (Fld.other W65 F62_end_x (Or.inl ne_x_f))
    have F65_at_x := (Fld.other W65 F62_at_x (Or.inl ne_x_f))
    have F65_end_y := (Fld.other W65 F62_end_y (Or.inl ne_y_f))
    have F65_began_y := (Fld.other W65 F62_began_y (Or.inl ne_y_f))
    have F65_acknowledgedThen_y := (Fld.other W65 F62_acknowledgedThen_y (Or.inl ne_y_f))
    have F65_limitThen_y := (Fld.other W65 F62_limitThen_y (Or.inl ne_y_f))
    have F65_elements_fu := (Fld.other W65 Q62_Fe (Or.inl ne_fu_f))
    have F65_head_fu := (Fld.other W65 Q62_Fh (Or.inl ne_fu_f))
    have F65_tail_fu := (Fld.other W65 Q62_Ft (Or.inl ne_fu_f))
    have X65_f := (Exa.wr W65 X62_f)
    have X65_fr := (Exa.wr W65 X62_fr)
    have X65_fe := (Exa.wr W65 X62_fe)
    have X65_fu := (Exa.wr W65 Q62_E)
    have X65_ue := (Exa.wr W65 Q62_X)
    have X65_x := (Exa.wr W65 X62_x)
    have X65_y := (Exa.wr W65 X62_y)
    have V65_fe := (V62_fe.other W65 ne_fe_f)
    have V65_ue := (Q62_V.other W65 ne_ue_f)
    have P65 := (P62.wr W65 (Or.inl (List.mem_of_getElem? (i := 0) rfl)))
    have F65_roundTrip_f := Fld.same W65 F62_roundTrip_f
    refine goto' K d_prog_89_method_8_105 (pc' := 45) (by decide) (by decide) ?_
    refine Jvm.OwnWp.aloadN K d_prog_89_method_8_45 rfl rfl (pc' := 46) rfl ?_
    refine Jvm.OwnWp.getf K (wd31 hw) Via.refl F65_flushes_f d_prog_89_method_8_46 (pc' := 49) rfl ?_
    refine callFaceUp K (y := (⟨"java/util/Queue", "isEmpty", "()Z"⟩ : MethodName)) (z := (⟨"java/util/ArrayDeque", "isEmpty", "()Z"⟩ : MethodName)) (J := "java/util/Collection") (b := fu) (argsL := []) (S := []) (wd124 hw) (wd125 hw) (wd126 hw) (by decide) (by decide) (wd127 hw) (wd128 hw) (wd129 hw) (wd130 hw) (wd63 hw) (wd13 hw) (wd131 hw) (by decide) X65_fu (c_demp l Z a0 hw [] fu (1 : Int32) (1 : Int32) h65 n0 (Nat.le_trans Z0 P65.1) F65_head_fu F65_tail_fu) (lenOf pd11 rfl) d_prog_89_method_8_49 rfl (Nat.le_of_ble_eq_true rfl) (Nat.le_of_ble_eq_true rfl) (Nat.le_of_ble_eq_true rfl) (Nat.le_of_ble_eq_true rfl) rfl (pc' := 54) rfl ?_
    rintro v66 h66 ⟨rfl, rfl⟩
    show Go _ _ _ _ _ _ _ _ _ _ _ h65 0 0 (mkF m 54 #[.val (.ref f), .val (.long q), .second, .val (.long now), .second, .unset] [(.int (if (1 : Int32) = (1 : Int32) then 1 else 0))]) _
    rw [show (if (1 : Int32) = (1 : Int32) then (1 : Int32) else 0) = 1 from by decide]
    refine ifY K d_prog_89_method_8_54 (by decide) (pc' := 108) (by decide) (by decide) ?_
    refine Jvm.OwnWp.iconst K (0 : Int32) d_prog_89_method_8_108 (by decide) (pc' := 109) rfl ?_
    refine Jvm.OwnWp.istore K d_prog_89_method_8_109 (Ls' := #[.val (.ref f), .val (.long q), .second, .val (.long now), .second, .val (.int (0 : Int32))]) rfl (pc' := 111) rfl ?_
    refine Jvm.OwnWp.aloadN K d_prog_89_method_8_111 rfl rfl (pc' := 112) rfl ?_
    refine Jvm.OwnWp.getf K (wd29 hw) Via.refl F65_frames_f d_prog_89_method_8_112 (pc' := 115) rfl ?_
    refine callFaceUp K (y := (⟨"java/util/Queue", "isEmpty", "()Z"⟩ : MethodName)) (z := (⟨"java/util/ArrayDeque", "isEmpty", "()Z"⟩ : MethodName)) (J := "java/util/Collection") (b := fr) (argsL := []) (S := []) (wd124 hw) (wd125 hw) (wd126 hw) (by decide) (by decide) (wd127 hw) (wd128 hw) (wd129 hw) (wd130 hw) (wd63 hw) (wd13 hw) (wd131 hw) (by decide) X65_fr (c_demp l Z a0 hw [] fr (0 : Int32) (1 : Int32) h65 n0 (Nat.le_trans Z0 P65.1) F65_head_fr F65_tail_fr) (lenOf pd11 rfl) d_prog_89_method_8_115 rfl (Nat.le_of_ble_eq_true rfl) (Nat.le_of_ble_eq_true rfl) (Nat.le_of_ble_eq_true rfl) (Nat.le_of_ble_eq_true rfl) rfl (pc' := 120) rfl ?_
    rintro v67 h67 ⟨rfl, rfl⟩
    show Go _ _ _ _ _ _ _ _ _ _ _ h65 0 0 (mkF m 120 #[.val (.ref f), .val (.long q), .second, .val (.long now), .second, .val (.int (0 : Int32))] [(.int (if (0 : Int32) = (1 : Int32) then 1 else 0))]) _
    rw [show (if (0 : Int32) = (1 : Int32) then (1 : Int32) else 0) = 0 from by decide]
    refine ifN K d_prog_89_method_8_120 (by decide) (pc' := 123) rfl ?_
    refine Jvm.OwnWp.aloadN K d_prog_89_method_8_123 rfl rfl (pc' := 124) rfl ?_
    refine Jvm.OwnWp.getf K (wd29 hw) Via.refl F65_frames_f d_prog_89_method_8_124 (pc' := 127) rfl ?_
    refine callFace K (y := (⟨"java/util/Queue", "peek", "()Ljava/lang/Object;"⟩ : MethodName)) (z := (⟨"java/util/ArrayDeque", "peek", "()Ljava/lang/Object;"⟩ : MethodName)) (b := fr) (argsL := []) (S := []) (wd132 hw) (wd133 hw) (wd134 hw) (by first | rfl | simp [Cond.onTables, Cond.keepsFace, Cond.keeps, Cond.steady, Cond.faceAtom]) (wd135 hw) (wd136 hw) (wd137 hw) (wd138 hw) (wd63 hw) (wd13 hw) (wd139 hw) (by decide) X65_fr (c_pk l Z a0 hw [] fr fe y h65 n0 (Nat.le_trans Z0 P65.1) X65_fe X65_fr F65_elements_fr F65_head_fr F65_tail_fr V65_fe) (lenOf pd4 rfl) d_prog_89_method_8_127 rfl (Nat.le_of_ble_eq_true rfl) (Nat.le_of_ble_eq_true rfl) (Nat.le_of_ble_eq_true rfl) (Nat.le_of_ble_eq_true rfl) rfl (pc' := 132) rfl ?_
    rintro v68 h68 ⟨rfl, rfl⟩
    show Go _ _ _ _ _ _ _ _ _ _ _ h65 0 0 (mkF m 132 #[.val (.ref f), .val (.long q), .second, .val (.long now), .second, .val (.int (0 : Int32))] [(.ref y)]) _
    refine Jvm.OwnWp.cast' K (wd90 hw) (Ins.self X65_y) d_prog_89_method_8_132 (pc' := 135) rfl ?_
    refine callVirt K (y := (⟨"com/example/adaptive_mirror/adaptivemirror/net/InFlight$Frame", "end", "()J"⟩ : MethodName)) (b := y) (argsL := []) (S := []) (wd155 hw) (wd156 hw) (wd158 hw) (wd157 hw) (wd92 hw) (wd159 hw) (by decide) X65_y (c_fra_end l Z a0 hw [] y (hh + ss) h65 n0 (Nat.le_trans Z0 P65.1) F65_end_y) (lenOf pd9 rfl) d_prog_89_method_8_135 rfl (Nat.le_of_ble_eq_true rfl) (Nat.le_of_ble_eq_true rfl) (Nat.le_of_ble_eq_true rfl) (Nat.le_of_ble_eq_true rfl) rfl (pc' := 138) rfl ?_
    rintro v69 h69 ⟨rfl, rfl⟩
    show Go _ _ _ _ _ _ _ _ _ _ _ h65 0 0 (mkF m 138 #[.val (.ref f), .val (.long q), .second, .val (.long now), .second, .val (.int (0 : Int32))] [(.long (hh + ss))]) _
    refine Jvm.OwnWp.lloadN K d_prog_89_method_8_138 rfl (pc' := 139) rfl ?_
    refine Jvm.OwnWp.lcmp K d_prog_89_method_8_139 (pc' := 140) rfl ?_
    by_cases c2 : q < (hh + ss)
    · refine ifY K d_prog_89_method_8_140 (XT.ll_gt_t c2) (pc' := 166) (by decide) (by decide) ?_
      refine Jvm.OwnWp.iload K d_prog_89_method_8_166 rfl (pc' := 168) rfl ?_
      refine retI K rfl d_prog_89_method_8_168 (Nat.le_of_ble_eq_true rfl) (Nat.le_of_ble_eq_true rfl) ?_
      exact ⟨_, rfl, P65, F65_acknowledged_f, F65_frames_f, F65_written_f, ⟨_, F65_carried_f⟩, Or.inl ⟨X65_fe, X65_fr, F65_elements_fr, F65_head_fr, F65_tail_fr, V65_fe⟩⟩
    · refine ifN K d_prog_89_method_8_140 (XT.ll_gt_f c2) (pc' := 143) rfl ?_
      refine Jvm.OwnWp.aloadN K d_prog_89_method_8_143 rfl rfl (pc' := 144) rfl ?_
      refine Jvm.OwnWp.aloadN K d_prog_89_method_8_144 rfl rfl (pc' := 145) rfl ?_
      refine Jvm.OwnWp.getf K (wd29 hw) Via.refl F65_frames_f d_prog_89_method_8_145 (pc' := 148) rfl ?_
      refine callFace K (y := (⟨"java/util/Queue", "remove", "()Ljava/lang/Object;"⟩ : MethodName)) (z := (⟨"java/util/ArrayDeque", "remove", "()Ljava/lang/Object;"⟩ : MethodName)) (b := fr) (argsL := []) (S := [(.ref f)]) (wd189 hw) (wd190 hw) (wd191 hw) (by first | rfl | simp [Cond.onTables, Cond.keepsFace, Cond.keeps, Cond.steady, Cond.faceAtom]) (wd192 hw) (wd193 hw) (wd194 hw) (wd195 hw) (wd63 hw) (wd13 hw) (wd196 hw) (by decide) X65_fr (c_rm l Z a0 hw [] fr fe y h65 n0 (Nat.le_trans Z0 P65.1) X65_fe X65_fr F65_elements_fr F65_head_fr F65_tail_fr V65_fe ge_fr ge_fe ne_fe_fr) (lenOf pd4 rfl) d_prog_89_method_8_148 rfl (Nat.le_of_ble_eq_true rfl) (Nat.le_of_ble_eq_true rfl) (Nat.le_of_ble_eq_true rfl) (Nat.le_of_ble_eq_true rfl) rfl (pc' := 153) rfl ?_
      rintro v70 h70 ⟨rfl, K70, Q70_X, Q70_E, Q70_Fe, Q70_Fh, Q70_Ft, Q70_V⟩
      have F70_frames_f := (Fld.keep F65_frames_f K70 (ninS (Ne.symm ne_fr_f) (ninS (Ne.symm ne_fe_f) (nin0))))
      have F70_flushes_f := (Fld.keep F65_flushes_f K70 (ninS (Ne.symm ne_fr_f) (ninS (Ne.symm ne_fe_f) (nin0))))
      have F70_roundTrip_f := (Fld.keep F65_roundTrip_f K70 (ninS (Ne.symm ne_fr_f) (ninS (Ne.symm ne_fe_f) (nin0))))
      have F70_written_f := (Fld.keep F65_written_f K70 (ninS (Ne.symm ne_fr_f) (ninS (Ne.symm ne_fe_f) (nin0))))
      have F70_flushed_f := (Fld.keep F65_flushed_f K70 (ninS (Ne.symm ne_fr_f) (ninS (Ne.symm ne_fe_f) (nin0))))
      have F70_acknowledged_f := (Fld.keep F65_acknowledged_f K70 (ninS (Ne.symm ne_fr_f) (ninS (Ne.symm ne_fe_f) (nin0))))
      have F70_carried_f := (Fld.keep F65_carried_f K70 (ninS (Ne.symm ne_fr_f) (ninS (Ne.symm ne_fe_f) (nin0))))
      have F70_carriedAt_f := (Fld.keep F65_carriedAt_f K70 (ninS (Ne.symm ne_fr_f) (ninS (Ne.symm ne_fe_f) (nin0))))
      have F70_end_x := (Fld.keep F65_end_x K70 (ninS ne_x_fr (ninS ne_x_fe (nin0))))
      have F70_at_x := (Fld.keep F65_at_x K70 (ninS ne_x_fr (ninS ne_x_fe (nin0))))
      have F70_end_y := (Fld.keep F65_end_y K70 (ninS ne_y_fr (ninS ne_y_fe (nin0))))
      have F70_began_y := (Fld.keep F65_began_y K70 (ninS ne_y_fr (ninS ne_y_fe (nin0))))
      have F70_acknowledgedThen_y := (Fld.keep F65_acknowledgedThen_y K70 (ninS ne_y_fr (ninS ne_y_fe (nin0))))
      have F70_limitThen_y := (Fld.keep F65_limitThen_y K70 (ninS ne_y_fr (ninS ne_y_fe (nin0))))
      have F70_elements_fu := (Fld.keep F65_elements_fu K70 (ninS ne_fu_fr (ninS ne_fu_fe (nin0))))
      have F70_head_fu := (Fld.keep F65_head_fu K70 (ninS ne_fu_fr (ninS ne_fu_fe (nin0))))
      have F70_tail_fu := (Fld.keep F65_tail_fu K70 (ninS ne_fu_fr (ninS ne_fu_fe (nin0))))
      have X70_f := (Exa.keep X65_f K70)
      have X70_fr := (Exa.keep X65_fr K70)
      have X70_fe := (Exa.keep X65_fe K70)
      have X70_fu := (Exa.keep X65_fu K70)
      have X70_ue := (Exa.keep X65_ue K70)
      have X70_x := (Exa.keep X65_x K70)
      have X70_y := (Exa.keep X65_y K70)
      have V70_ue := (V65_ue.keep K70 (ninS ne_ue_fr (ninS ne_ue_fe (nin0))))
      have P70 := (P65.trans K70 (allS (Or.inl (List.mem_of_getElem? (i := 1) rfl)) (allS (Or.inl (List.mem_of_getElem? (i := 2) rfl)) (all0))))
      show Go _ _ _ _ _ _ _ _ _ _ _ h70 0 0 (mkF m 153 #[.val (.ref f), .val (.long q), .second, .val (.long now), .second, .val (.int (0 : Int32))] [(.ref y), (.ref f)]) _
      refine Jvm.OwnWp.cast' K (wd90 hw) (Ins.self X70_y) d_prog_89_method_8_153 (pc' := 156) rfl ?_
      refine Jvm.OwnWp.lloadN K d_prog_89_method_8_156 rfl (pc' := 157) rfl ?_
      refine callPriv K (y := (⟨"com/example/adaptive_mirror/adaptivemirror/net/InFlight", "measure", "(Lcom/example/adaptive_mirror/adaptivemirror/net/InFlight$Frame;J)V"⟩ : MethodName)) (b := f) (argsL := [(.ref y), (.long now)]) (S := []) (wd215 hw) (wd216 hw) (wd217 hw) (wd3 hw) (wd4 hw) (wd218 hw) (by decide) X70_f (c_mea l Z a0 hw [] f y fr now (hh + ss) 0 65536 0 0 q (hh + ss) h70 n0 (Nat.le_trans Z0 P70.1) X70_f ge_f ne_y_f F70_roundTrip_f F70_carried_f F70_carriedAt_f F70_frames_f F70_acknowledged_f X70_y F70_end_y F70_began_y F70_acknowledgedThen_y F70_limitThen_y F70_written_f) (lenOf pd12 rfl) d_prog_89_method_8_157 rfl (Nat.le_of_ble_eq_true rfl) (Nat.le_of_ble_eq_true rfl) (Nat.le_of_ble_eq_true rfl) (Nat.le_of_ble_eq_true rfl) rfl (pc' := 160) rfl ?_
      rintro v71 h71 ⟨rfl, K71, Q71_fr, Q71_ak, Q71_w, cv71, Q71_c⟩
      have F71_end_x := (Fld.keep F70_end_x K71 (ninS ne_x_f (nin0)))
      have F71_at_x := (Fld.keep F70_at_x K71 (ninS ne_x_f (nin0)))
      have F71_end_y := (Fld.keep F70_end_y K71 (ninS ne_y_f (nin0)))
      have F71_began_y := (Fld.keep F70_began_y K71 (ninS ne_y_f (nin0)))
      have F71_acknowledgedThen_y := (Fld.keep F70_acknowledgedThen_y K71 (ninS ne_y_f (nin0)))
      have F71_limitThen_y := (Fld.keep F70_limitThen_y K71 (ninS ne_y_f (nin0)))
      have F71_elements_fu := (Fld.keep F70_elements_fu K71 (ninS ne_fu_f (nin0)))
      have F71_head_fu := (Fld.keep F70_head_fu K71 (ninS ne_fu_f (nin0)))
      have F71_tail_fu := (Fld.keep F70_tail_fu K71 (ninS ne_fu_f (nin0)))
      have F71_elements_fr := (Fld.keep Q70_Fe K71 (ninS ne_fr_f (nin0)))
      have F71_head_fr := (Fld.keep Q70_Fh K71 (ninS ne_fr_f (nin0)))
      have F71_tail_fr := (Fld.keep Q70_Ft K71 (ninS ne_fr_f (nin0)))
      have X71_f := (Exa.keep X70_f K71)
      have X71_fr := (Exa.keep Q70_E K71)
      have X71_fe := (Exa.keep Q70_X K71)
      have X71_fu := (Exa.keep X70_fu K71)
      have X71_ue := (Exa.keep X70_ue K71)
      have X71_x := (Exa.keep X70_x K71)
      have X71_y := (Exa.keep X70_y K71)
      have V71_ue := (V70_ue.keep K71 (ninS ne_ue_f (nin0)))
      have V71_fe := (Q70_V.keep K71 (ninS ne_fe_f (nin0)))
      have P71 := (P70.trans K71 (allS (Or.inl (List.mem_of_getElem? (i := 0) rfl)) (all0)))
      show Go _ _ _ _ _ _ _ _ _ _ _ h71 0 0 (mkF m 160 #[.val (.ref f), .val (.long q), .second, .val (.long now), .second, .val (.int (0 : Int32))] []) _
      refine Jvm.OwnWp.iinc K (1 : Int32) d_prog_89_method_8_160 (by decide) rfl (Ls' := #[.val (.ref f), .val (.long q), .second, .val (.long now), .second, .val (.int ((0 : Int32) + (1 : Int32)))]) rfl (pc' := 163) rfl ?_
      refine goto' K d_prog_89_method_8_163 (pc' := 111) (by decide) (by decide) ?_
      refine Jvm.OwnWp.aloadN K d_prog_89_method_8_111 rfl rfl (pc' := 112) rfl ?_
      refine Jvm.OwnWp.getf K (wd29 hw) Via.refl Q71_fr d_prog_89_method_8_112 (pc' := 115) rfl ?_
      refine callFaceUp K (y := (⟨"java/util/Queue", "isEmpty", "()Z"⟩ : MethodName)) (z := (⟨"java/util/ArrayDeque", "isEmpty", "()Z"⟩ : MethodName)) (J := "java/util/Collection") (b := fr) (argsL := []) (S := []) (wd124 hw) (wd125 hw) (wd126 hw) (by decide) (by decide) (wd127 hw) (wd128 hw) (wd129 hw) (wd130 hw) (wd63 hw) (wd13 hw) (wd131 hw) (by decide) X71_fr (c_demp l Z a0 hw [] fr (1 : Int32) (1 : Int32) h71 n0 (Nat.le_trans Z0 P71.1) F71_head_fr F71_tail_fr) (lenOf pd11 rfl) d_prog_89_method_8_115 rfl (Nat.le_of_ble_eq_true rfl) (Nat.le_of_ble_eq_true rfl) (Nat.le_of_ble_eq_true rfl) (Nat.le_of_ble_eq_true rfl) rfl (pc' := 120) rfl ?_
      rintro v72 h72 ⟨rfl, rfl⟩
      show Go _ _ _ _ _ _ _ _ _ _ _ h71 0 0 (mkF m 120 #[.val (.ref f), .val (.long q), .second, .val (.long now), .second, .val (.int ((0 : Int32) + (1 : Int32)))] [(.int (if (1 : Int32) = (1 : Int32) then 1 else 0))]) _
      rw [show (if (1 : Int32) = (1 : Int32) then (1 : Int32) else 0) = 1 from by decide]
      refine ifY K d_prog_89_method_8_120 (by decide) (pc' := 166) (by decide) (by decide) ?_
      refine Jvm.OwnWp.iload K d_prog_89_method_8_166 rfl (pc' := 168) rfl ?_
      refine retI K rfl d_prog_89_method_8_168 (Nat.le_of_ble_eq_true rfl) (Nat.le_of_ble_eq_true rfl) ?_
      exact ⟨_, rfl, P71, Q71_ak, Q71_fr, Q71_w, ⟨_, Q71_c⟩, Or.inr ⟨X71_fe, X71_fr, F71_elements_fr, F71_head_fr, F71_tail_fr, V71_fe⟩⟩
set_option maxRecDepth 65536 in
set_option maxHeartbeats 40000000 in
theorem c_ife (l : Launch) (Z : State) (a0 : Array Value) (hw : ∀ d ∈ tables_1, d.before a0 Z = true) (ws : List Jvm.Cond) (f : Addr) (x y : Int64) (h0 : Heap) (n0 : Nat) (Z0 : n0 ≤ h0.size) (F1 : Fld Z h0 f "com/example/adaptive_mirror/adaptivemirror/net/InFlight" "written" "J" (.long x)) (F2 : Fld Z h0 f "com/example/adaptive_mirror/adaptivemirror/net/InFlight" "acknowledged" "J" (.long y)) :
    Ctr l Z (⟨"com/example/adaptive_mirror/adaptivemirror/net/InFlight", "isEmpty", "()Z"⟩ : MethodName) prog_89_method_2_code 1 (some .boolean) ws ({ frames := 0, cells := 0, slots := 0, locals := 0 } : Room) n0 #[(.ref f)] h0 (fun v h => v = some (.int (if x = y then 1 else 0)) ∧ h0 = h) := by
  refine ctr (own := "com/example/adaptive_mirror/adaptivemirror/net/InFlight") (nm := "isEmpty") rfl rfl (Ls := #[.val (.ref f)]) (plainFor_of_name pn5) (fun m => by first | (simp [entryFrame, mkF, argsToLocals, Value.category]; done) | rfl) ?_
  intro p e s m below meth c K eh
  refine Jvm.OwnWp.aloadN K d_prog_89_method_2_0 rfl rfl (pc' := 1) rfl ?_
  refine Jvm.OwnWp.getf K (wd36 hw) Via.refl F1 d_prog_89_method_2_1 (pc' := 4) rfl ?_
  refine Jvm.OwnWp.aloadN K d_prog_89_method_2_4 rfl rfl (pc' := 5) rfl ?_
  refine Jvm.OwnWp.getf K (wd83 hw) Via.refl F2 d_prog_89_method_2_5 (pc' := 8) rfl ?_
  refine Jvm.OwnWp.lcmp K d_prog_89_method_2_8 (pc' := 9) rfl ?_
  by_cases c1 : x = y
  · refine ifN K d_prog_89_method_2_9 (XT.ll_ne_f c1) (pc' := 12) rfl ?_
    refine Jvm.OwnWp.iconst K (1 : Int32) d_prog_89_method_2_12 (by decide) (pc' := 13) rfl ?_
    refine goto' K d_prog_89_method_2_13 (pc' := 17) (by decide) (by decide) ?_
    refine retB K (t := .boolean) rfl (by simp) d_prog_89_method_2_17 (Nat.le_of_ble_eq_true rfl) (Nat.le_of_ble_eq_true rfl) ?_
    exact ⟨by rw [if_pos c1]; rfl, rfl⟩
  · refine ifY K d_prog_89_method_2_9 (XT.ll_ne_t c1) (pc' := 16) (by decide) (by decide) ?_
    refine Jvm.OwnWp.iconst K (0 : Int32) d_prog_89_method_2_16 (by decide) (pc' := 17) rfl ?_
    refine retB K (t := .boolean) rfl (by simp) d_prog_89_method_2_17 (Nat.le_of_ble_eq_true rfl) (Nat.le_of_ble_eq_true rfl) ?_
    exact ⟨by rw [if_neg c1]; rfl, rfl⟩
set_option maxRecDepth 65536 in
set_option maxHeartbeats 40000000 in
theorem c_mini (l : Launch) (Z : State) (a0 : Array Value) (hw : ∀ d ∈ tables_1, d.before a0 Z = true) (ws : List Jvm.Cond)  (h0 : Heap) (n0 : Nat) (Z0 : n0 ≤ h0.size) :
    Ctr l Z (⟨"java/lang/Math", "min", "(II)I"⟩ : MethodName) jdk_29_method_69_code 2 (some .int) ws ({ frames := 0, cells := 0, slots := 0, locals := 0 } : Room) n0 #[(.int (2 : Int32)), (.int (6 : Int32))] h0 (fun v h => v = some (.int 2) ∧ h0 = h) := by
  refine ctr (own := "java/lang/Math") (nm := "min") rfl rfl (Ls := #[.val (.int (2 : Int32)), .val (.int (6 : Int32))]) (by decide +kernel) (fun m => by first | (simp [entryFrame, mkF, argsToLocals, Value.category]; done) | rfl) ?_
  intro p e s m below meth c K eh
  refine Jvm.OwnWp.iloadN K d_jdk_29_method_69_0 rfl (pc' := 1) rfl ?_
  refine Jvm.OwnWp.iloadN K d_jdk_29_method_69_1 rfl (pc' := 2) rfl ?_
  refine icN K d_jdk_29_method_69_2 (by decide) (pc' := 5) rfl ?_
  refine Jvm.OwnWp.iloadN K d_jdk_29_method_69_5 rfl (pc' := 6) rfl ?_
  refine goto' K d_jdk_29_method_69_6 (pc' := 10) (by decide) (by decide) ?_
  refine retI K rfl d_jdk_29_method_69_10 (Nat.le_of_ble_eq_true rfl) (Nat.le_of_ble_eq_true rfl) ?_
  exact ⟨rfl, rfl⟩
set_option maxRecDepth 65536 in
set_option maxHeartbeats 40000000 in
theorem c_inc1 (l : Launch) (Z : State) (a0 : Array Value) (hw : ∀ d ∈ tables_1, d.before a0 Z = true) (ws : List Jvm.Cond)  (h0 : Heap) (n0 : Nat) (Z0 : n0 ≤ h0.size) :
    Ctr l Z (⟨"java/util/ArrayDeque", "inc", "(II)I"⟩ : MethodName) jdk_21_method_6_code 2 (some .int) ws ({ frames := 0, cells := 0, slots := 0, locals := 0 } : Room) n0 #[(.int (1 : Int32)), (.int (2 : Int32))] h0 (fun v h => v = some (.int 0) ∧ h0 = h) := by
  refine ctr (own := "java/util/ArrayDeque") (nm := "inc") rfl rfl (Ls := #[.val (.int (1 : Int32)), .val (.int (2 : Int32))]) (plainFor_of_name pn2) (fun m => by first | (simp [entryFrame, mkF, argsToLocals, Value.category]; done) | rfl) ?_
  intro p e s m below meth c K eh
  refine Jvm.OwnWp.iinc K (1 : Int32) d_jdk_21_method_6_0 (by decide) rfl (Ls' := #[.val (.int ((1 : Int32) + (1 : Int32))), .val (.int (2 : Int32))]) rfl (pc' := 3) rfl ?_
  refine Jvm.OwnWp.iloadN K d_jdk_21_method_6_3 rfl (pc' := 4) rfl ?_
  refine Jvm.OwnWp.iloadN K d_jdk_21_method_6_4 rfl (pc' := 5) rfl ?_
  refine icN K d_jdk_21_method_6_5 (by decide) (pc' := 8) rfl ?_
  refine Jvm.OwnWp.iconst K (0 : Int32) d_jdk_21_method_6_8 (by decide) (pc' := 9) rfl ?_
  refine Jvm.OwnWp.istoreN K d_jdk_21_method_6_9 (Ls' := #[.val (.int (0 : Int32)), .val (.int (2 : Int32))]) rfl (pc' := 10) rfl ?_
  refine Jvm.OwnWp.iloadN K d_jdk_21_method_6_10 rfl (pc' := 11) rfl ?_
  refine retI K rfl d_jdk_21_method_6_11 (Nat.le_of_ble_eq_true rfl) (Nat.le_of_ble_eq_true rfl) ?_
  exact ⟨rfl, rfl⟩
theorem own_el2 {Z : State} {a0 : Array Value} {h : Heap} {y z : Addr} {C : String} (X : Exa Z h y C) (Y : Exa Z h z C) (w : (Cond.castable C "java/lang/Object").before a0 Z = true) : ∀ v ∈ ([.ref y, .ref z] : List Value), v = .null ∨ ∃ r C, v = .ref r ∧ Exa Z h r C ∧ Ins Z h r "java/lang/Object" true := by
  intro v hv
  simp only [List.mem_cons, List.not_mem_nil, or_false] at hv
  rcases hv with rfl | rfl
  · exact Or.inr ⟨y, C, rfl, X, Ins.of_exa X w⟩
  · exact Or.inr ⟨z, C, rfl, Y, Ins.of_exa Y w⟩
theorem own_el6 {Z : State} {a0 : Array Value} {h : Heap} {y z : Addr} {C : String} (X : Exa Z h y C) (Y : Exa Z h z C) (w : (Cond.castable C "java/lang/Object").before a0 Z = true) : ∀ v ∈ ([.ref y, .ref z, .null, .null, .null, .null] : List Value), v = .null ∨ ∃ r C, v = .ref r ∧ Exa Z h r C ∧ Ins Z h r "java/lang/Object" true := by
  intro v hv
  simp only [List.mem_cons, List.not_mem_nil, or_false] at hv
  rcases hv with rfl | rfl | rfl | rfl | rfl | rfl
  · exact Or.inr ⟨y, C, rfl, X, Ins.of_exa X w⟩
  · exact Or.inr ⟨z, C, rfl, Y, Ins.of_exa Y w⟩
  all_goals exact Or.inl rfl
theorem own_zs {y z : Addr} {zs : List Value} (h : ∀ k, zs[k]? = if 0 ≤ k ∧ k < 0 + 2 then ([.ref y, .ref z] : List Value)[0 + (k - 0)]? else (List.replicate 6 (Value.null))[k]?) : zs = [.ref y, .ref z, .null, .null, .null, .null] :=
  List.ext_getElem? fun k => by
    rw [h k]
    match k with
    | 0 => rfl
    | 1 => rfl
    | 2 => rfl
    | 3 => rfl
    | 4 => rfl
    | 5 => rfl
    | k + 6 => rw [if_neg (by omega)]; simp
set_option maxRecDepth 65536 in
set_option maxHeartbeats 40000000 in
theorem c_cp3 (l : Launch) (Z : State) (a0 : Array Value) (hw : ∀ d ∈ tables_1, d.before a0 Z = true) (ws : List Jvm.Cond) (ea mr y z : Addr) (h0 : Heap) (n0 : Nat) (Z0 : n0 ≤ h0.size) (M : MirAt Z "[Ljava/lang/Object;" mr) (V : VecR Z h0 ea "java/lang/Object" [.ref y, .ref z]) (Xy : Exa Z h0 y "com/example/adaptive_mirror/adaptivemirror/net/InFlight$Frame") (Xz : Exa Z h0 z "com/example/adaptive_mirror/adaptivemirror/net/InFlight$Frame") :
    Ctr l Z (⟨"java/util/Arrays", "copyOf", "([Ljava/lang/Object;ILjava/lang/Class;)[Ljava/lang/Object;"⟩ : MethodName) jdk_65_method_120_code 4 (some (.array (.object "java/lang/Object"))) ws ({ frames := 1, cells := 1, slots := 6, locals := 18 } : Room) n0 #[(.ref ea), (.int (6 : Int32)), (.ref mr)] h0 (fun v h => ∃ x : Addr, v = some (.ref x) ∧ h0.size ≤ x ∧ Keep h0 h [] ∧ VecR Z h x "java/lang/Object" [.ref y, .ref z, .null, .null, .null, .null]) := by
  refine ctr (own := "java/util/Arrays") (nm := "copyOf") rfl rfl (Ls := #[.val (.ref ea), .val (.int (6 : Int32)), .val (.ref mr), .unset]) (plainFor_of_name pn6) (fun m => by first | (simp [entryFrame, mkF, argsToLocals, Value.category]; done) | rfl) ?_
  intro p e s m below meth c K eh
  have P0 := Keep.refl h0 []
  refine Jvm.OwnWp.aloadN K d_jdk_65_method_120_0 rfl rfl (pc' := 1) rfl ?_
  refine ldcMir K (wd179 hw) M d_jdk_65_method_120_1 (pc' := 3) rfl ?_
  refine acN K d_jdk_65_method_120_3 rfl rfl (XT.aa_ne_f rfl) (pc' := 6) rfl ?_
  refine Jvm.OwnWp.iloadN K d_jdk_65_method_120_6 rfl (pc' := 7) rfl ?_
  refine newArrR K (N := 6) (wd180 hw) (wd26 hw) (by decide) (by decide) d_jdk_65_method_120_7 (Nat.le_of_ble_eq_true rfl) (Nat.le_of_ble_eq_true rfl) (pc' := 10) rfl ?_
  intro h73 b73 g73 E73 A73
  have ne_y_b73 : y ≠ b73 := Nat.ne_of_lt (Nat.lt_of_lt_of_eq (Exa.lt Xy) g73.symm)
  have ne_z_b73 : z ≠ b73 := Nat.ne_of_lt (Nat.lt_of_lt_of_eq (Exa.lt Xz) g73.symm)
  have ne_ea_b73 : ea ≠ b73 := Nat.ne_of_lt (Nat.lt_of_lt_of_eq (V.lt) g73.symm)
  have lt_b73 : h0.size ≤ b73 := Nat.le_trans P0.1 (Nat.le_of_eq g73.symm)
  have ge_b73 : n0 ≤ b73 := Nat.le_trans Z0 lt_b73
  have X73_y := (Exa.ext E73 Xy)
  have X73_z := (Exa.ext E73 Xz)
  have V73_ea := (V.ext E73)
  have P73 := (P0.ext E73)
  refine goto' K d_jdk_65_method_120_10 (pc' := 24) (by decide) (by decide) ?_
  refine Jvm.OwnWp.astoreN K d_jdk_65_method_120_24 rfl (Ls' := #[.val (.ref ea), .val (.int (6 : Int32)), .val (.ref mr), .val (.ref b73)]) rfl (pc' := 25) rfl ?_
  refine Jvm.OwnWp.aloadN K d_jdk_65_method_120_25 rfl rfl (pc' := 26) rfl ?_
  refine Jvm.OwnWp.iconst K (0 : Int32) d_jdk_65_method_120_26 (by decide) (pc' := 27) rfl ?_
  refine Jvm.OwnWp.aloadN K d_jdk_65_method_120_27 rfl rfl (pc' := 28) rfl ?_
  refine Jvm.OwnWp.iconst K (0 : Int32) d_jdk_65_method_120_28 (by decide) (pc' := 29) rfl ?_
  refine Jvm.OwnWp.aloadN K d_jdk_65_method_120_29 rfl rfl (pc' := 30) rfl ?_
  refine alen K V73_ea.vec d_jdk_65_method_120_30 (pc' := 31) rfl ?_
  show Go _ _ _ _ _ _ _ _ _ _ _ h73 1 6 (mkF m 31 #[.val (.ref ea), .val (.int (6 : Int32)), .val (.ref mr), .val (.ref b73)] [(.int (2 : Int32)), (.int (0 : Int32)), (.ref b73), (.int (0 : Int32)), (.ref ea)]) _
  refine Jvm.OwnWp.iloadN K d_jdk_65_method_120_31 rfl (pc' := 32) rfl ?_
  refine callStatic K (y := (⟨"java/lang/Math", "min", "(II)I"⟩ : MethodName)) (argsL := [(.int (2 : Int32)), (.int (6 : Int32))]) (S := [(.int (0 : Int32)), (.ref b73), (.int (0 : Int32)), (.ref ea)]) (wd181 hw) (wd182 hw) (wd104 hw) (wd183 hw) (by decide) (c_mini l Z a0 hw [] h73 n0 (Nat.le_trans Z0 P73.1)) (lenOf pd1 rfl) d_jdk_65_method_120_32 rfl (Nat.le_of_ble_eq_true rfl) (Nat.le_of_ble_eq_true rfl) (Nat.le_of_ble_eq_true rfl) (Nat.le_of_ble_eq_true rfl) rfl (pc' := 35) rfl ?_
  rintro v74 h74 ⟨rfl, rfl⟩
  show Go _ _ _ _ _ _ _ _ _ _ _ h73 1 6 (mkF m 35 #[.val (.ref ea), .val (.int (6 : Int32)), .val (.ref mr), .val (.ref b73)] [(.int (2 : Int32)), (.int (0 : Int32)), (.ref b73), (.int (0 : Int32)), (.ref ea)]) _
  refine acopyR K (P := 0) (D := 0) (N := 2) (wd184 hw) (wd187 hw) (wd185 hw) (wd186 hw) V73_ea A73 (by decide) (by decide) (by decide) (by simp) (by simp) (own_el2 X73_y X73_z (wd118 hw)) ge_b73 d_jdk_65_method_120_35 rfl (Nat.le_of_ble_eq_true rfl) (Nat.le_of_ble_eq_true rfl) (pc' := 38) rfl ?_
  rintro h75 zs75 K75 A75 ZL75 ZQ75
  have X75_y := (Exa.keep X73_y K75)
  have X75_z := (Exa.keep X73_z K75)
  have V75_ea := (V73_ea.keep K75 (ninS ne_ea_b73 (nin0)))
  have P75 := (P73.trans K75 (allS (Or.inr lt_b73) (all0)))
  obtain rfl := own_zs ZQ75
  refine Jvm.OwnWp.aloadN K d_jdk_65_method_120_38 rfl rfl (pc' := 39) rfl ?_
  refine retA K (t := (.array (.object "java/lang/Object"))) rfl rfl rfl d_jdk_65_method_120_39 (Nat.le_of_ble_eq_true rfl) (Nat.le_of_ble_eq_true rfl) ?_
  exact ⟨_, rfl, lt_b73, P75, A75⟩
set_option maxRecDepth 65536 in
set_option maxHeartbeats 40000000 in
theorem c_cp2 (l : Launch) (Z : State) (a0 : Array Value) (hw : ∀ d ∈ tables_1, d.before a0 Z = true) (ws : List Jvm.Cond) (ea mr y z : Addr) (h0 : Heap) (n0 : Nat) (Z0 : n0 ≤ h0.size) (M : MirAt Z "[Ljava/lang/Object;" mr) (X : Exa Z h0 ea "[Ljava/lang/Object;") (V : VecR Z h0 ea "java/lang/Object" [.ref y, .ref z]) (Xy : Exa Z h0 y "com/example/adaptive_mirror/adaptivemirror/net/InFlight$Frame") (Xz : Exa Z h0 z "com/example/adaptive_mirror/adaptivemirror/net/InFlight$Frame") :
    Ctr l Z (⟨"java/util/Arrays", "copyOf", "([Ljava/lang/Object;I)[Ljava/lang/Object;"⟩ : MethodName) jdk_65_method_119_code 2 (some (.array (.object "java/lang/Object"))) ws ({ frames := 2, cells := 1, slots := 6, locals := 33 } : Room) n0 #[(.ref ea), (.int (6 : Int32))] h0 (fun v h => ∃ x : Addr, v = some (.ref x) ∧ h0.size ≤ x ∧ Keep h0 h [] ∧ VecR Z h x "java/lang/Object" [.ref y, .ref z, .null, .null, .null, .null]) := by
  refine ctr (own := "java/util/Arrays") (nm := "copyOf") rfl rfl (Ls := #[.val (.ref ea), .val (.int (6 : Int32))]) (plainFor_of_name pn6) (fun m => by first | (simp [entryFrame, mkF, argsToLocals, Value.category]; done) | rfl) ?_
  intro p e s m below meth c K eh
  have P0 := Keep.refl h0 []
  refine Jvm.OwnWp.aloadN K d_jdk_65_method_119_0 rfl rfl (pc' := 1) rfl ?_
  refine Jvm.OwnWp.iloadN K d_jdk_65_method_119_1 rfl (pc' := 2) rfl ?_
  refine Jvm.OwnWp.aloadN K d_jdk_65_method_119_2 rfl rfl (pc' := 3) rfl ?_
  refine gclsA K (wd170 hw) (wd171 hw) (wd173 hw) (wd172 hw) (wd174 hw) X M d_jdk_65_method_119_3 rfl (Nat.le_of_ble_eq_true rfl) (Nat.le_of_ble_eq_true rfl) (pc' := 6) rfl ?_
  refine callStatic K (y := (⟨"java/util/Arrays", "copyOf", "([Ljava/lang/Object;ILjava/lang/Class;)[Ljava/lang/Object;"⟩ : MethodName)) (argsL := [(.ref ea), (.int (6 : Int32)), (.ref mr)]) (S := []) (wd176 hw) (wd177 hw) (wd168 hw) (wd178 hw) (by decide) (c_cp3 l Z a0 hw [] ea mr y z h0 n0 Z0 M V Xy Xz) (lenOf pd13 rfl) d_jdk_65_method_119_6 rfl (Nat.le_of_ble_eq_true rfl) (Nat.le_of_ble_eq_true rfl) (Nat.le_of_ble_eq_true rfl) (Nat.le_of_ble_eq_true rfl) rfl (pc' := 9) rfl ?_
  rintro v76 h76 ⟨x76, rfl, L76, K76, V76⟩
  have ne_ea_x76 : ea ≠ x76 := Nat.ne_of_lt (Nat.lt_of_lt_of_le (V.lt) L76)
  have lt_x76 : h0.size ≤ x76 := Nat.le_trans P0.1 L76
  have ge_x76 : n0 ≤ x76 := Nat.le_trans Z0 lt_x76
  have X76_ea := (Exa.keep X K76)
  have V76_ea := (V.keep K76 (nin0))
  have P76 := (P0.trans K76 (all0))
  show Go _ _ _ _ _ _ _ _ _ _ _ h76 1 6 (mkF m 9 #[.val (.ref ea), .val (.int (6 : Int32))] [(.ref x76)]) _
  refine retA K (t := (.array (.object "java/lang/Object"))) rfl rfl rfl d_jdk_65_method_119_9 (Nat.le_of_ble_eq_true rfl) (Nat.le_of_ble_eq_true rfl) ?_
  exact ⟨_, rfl, lt_x76, P76, V76⟩
set_option maxRecDepth 65536 in
set_option maxHeartbeats 40000000 in
theorem c_grow (l : Launch) (Z : State) (a0 : Array Value) (hw : ∀ d ∈ tables_1, d.before a0 Z = true) (ws : List Jvm.Cond) (b ea mr y z : Addr) (h0 : Heap) (n0 : Nat) (Z0 : n0 ≤ h0.size) (M : MirAt Z "[Ljava/lang/Object;" mr) (X : Exa Z h0 ea "[Ljava/lang/Object;") (E : Exa Z h0 b "java/util/ArrayDeque") (Fe : Fld Z h0 b "java/util/ArrayDeque" "elements" "[Ljava/lang/Object;" (.ref ea)) (Fh : Fld Z h0 b "java/util/ArrayDeque" "head" "I" (.int 0)) (Ft : Fld Z h0 b "java/util/ArrayDeque" "tail" "I" (.int 0)) (V : VecR Z h0 ea "java/lang/Object" [.ref y, .ref z]) (Xy : Exa Z h0 y "com/example/adaptive_mirror/adaptivemirror/net/InFlight$Frame") (Xz : Exa Z h0 z "com/example/adaptive_mirror/adaptivemirror/net/InFlight$Frame") (ge_b : n0 ≤ b) (ne_ea_b : ea ≠ b) (ne_y_b : y ≠ b) (ne_z_b : z ≠ b) :
    Ctr l Z (⟨"java/util/ArrayDeque", "grow", "(I)V"⟩ : MethodName) jdk_21_method_1_code 9 none ws ({ frames := 3, cells := 1, slots := 6, locals := 47 } : Room) n0 #[(.ref b), (.int (1 : Int32))] h0 (fun v h => v = none ∧ Keep h0 h [b]) := by
  refine ctr (own := "java/util/ArrayDeque") (nm := "grow") rfl rfl (Ls := #[.val (.ref b), .val (.int (1 : Int32)), .unset, .unset, .unset, .unset, .unset, .unset, .unset]) (plainFor_of_name pn2) (fun m => by first | (simp [entryFrame, mkF, argsToLocals, Value.category]; done) | rfl) ?_
  intro p e s m below meth c K eh
  have P0 := Keep.refl h0 [b]
  refine Jvm.OwnWp.aloadN K d_jdk_21_method_1_0 rfl rfl (pc' := 1) rfl ?_
  refine Jvm.OwnWp.getf K (wd27 hw) Via.refl Fe d_jdk_21_method_1_1 (pc' := 4) rfl ?_
  refine alen K V.vec d_jdk_21_method_1_4 (pc' := 5) rfl ?_
  show Go _ _ _ _ _ _ _ _ _ _ _ h0 0 0 (mkF m 5 #[.val (.ref b), .val (.int (1 : Int32)), .unset, .unset, .unset, .unset, .unset, .unset, .unset] [(.int (2 : Int32))]) _
  refine Jvm.OwnWp.istoreN K d_jdk_21_method_1_5 (Ls' := #[.val (.ref b), .val (.int (1 : Int32)), .val (.int (2 : Int32)), .unset, .unset, .unset, .unset, .unset, .unset]) rfl (pc' := 6) rfl ?_
  refine Jvm.OwnWp.iloadN K d_jdk_21_method_1_6 rfl (pc' := 7) rfl ?_
  refine Jvm.OwnWp.bipush K (64 : Int32) d_jdk_21_method_1_7 (by decide) (pc' := 9) rfl ?_
  refine icN K d_jdk_21_method_1_9 (by decide) (pc' := 12) rfl ?_
  refine Jvm.OwnWp.iloadN K d_jdk_21_method_1_12 rfl (pc' := 13) rfl ?_
  refine Jvm.OwnWp.iconst K (2 : Int32) d_jdk_21_method_1_13 (by decide) (pc' := 14) rfl ?_
  refine Jvm.OwnWp.iadd K d_jdk_21_method_1_14 (pc' := 15) rfl ?_
  refine goto' K d_jdk_21_method_1_15 (pc' := 21) (by decide) (by decide) ?_
  refine Jvm.OwnWp.istore K d_jdk_21_method_1_21 (Ls' := #[.val (.ref b), .val (.int (1 : Int32)), .val (.int (2 : Int32)), .unset, .val (.int ((2 : Int32) + (2 : Int32))), .unset, .unset, .unset, .unset]) rfl (pc' := 23) rfl ?_
  refine Jvm.OwnWp.iload K d_jdk_21_method_1_23 rfl (pc' := 25) rfl ?_
  refine Jvm.OwnWp.iloadN K d_jdk_21_method_1_25 rfl (pc' := 26) rfl ?_
  refine icN K d_jdk_21_method_1_26 (by decide) (pc' := 29) rfl ?_
  refine Jvm.OwnWp.iloadN K d_jdk_21_method_1_29 rfl (pc' := 30) rfl ?_
  refine Jvm.OwnWp.iload K d_jdk_21_method_1_30 rfl (pc' := 32) rfl ?_
  refine Jvm.OwnWp.iadd K d_jdk_21_method_1_32 (pc' := 33) rfl ?_
  refine Jvm.OwnWp.dup K d_jdk_21_method_1_33 rfl (pc' := 34) rfl ?_
  refine Jvm.OwnWp.istoreN K d_jdk_21_method_1_34 (Ls' := #[.val (.ref b), .val (.int (1 : Int32)), .val (.int (2 : Int32)), .val (.int ((2 : Int32) + ((2 : Int32) + (2 : Int32)))), .val (.int ((2 : Int32) + (2 : Int32))), .unset, .unset, .unset, .unset]) rfl (pc' := 35) rfl ?_
  refine Jvm.OwnWp.ldcI K (wd165 hw) d_jdk_21_method_1_35 (pc' := 37) rfl ?_
  refine Jvm.OwnWp.isub K d_jdk_21_method_1_37 (pc' := 38) rfl ?_
  refine ifY K d_jdk_21_method_1_38 (by decide) (pc' := 49) (by decide) (by decide) ?_
  refine Jvm.OwnWp.aloadN K d_jdk_21_method_1_49 rfl rfl (pc' := 50) rfl ?_
  refine Jvm.OwnWp.aloadN K d_jdk_21_method_1_50 rfl rfl (pc' := 51) rfl ?_
  refine Jvm.OwnWp.getf K (wd27 hw) Via.refl Fe d_jdk_21_method_1_51 (pc' := 54) rfl ?_
  refine Jvm.OwnWp.iloadN K d_jdk_21_method_1_54 rfl (pc' := 55) rfl ?_
  show Go _ _ _ _ _ _ _ _ _ _ _ h0 0 0 (mkF m 55 #[.val (.ref b), .val (.int (1 : Int32)), .val (.int (2 : Int32)), .val (.int (6 : Int32)), .val (.int ((2 : Int32) + (2 : Int32))), .unset, .unset, .unset, .unset] [(.int (6 : Int32)), (.ref ea), (.ref b)]) _
  refine callStatic K (y := (⟨"java/util/Arrays", "copyOf", "([Ljava/lang/Object;I)[Ljava/lang/Object;"⟩ : MethodName)) (argsL := [(.ref ea), (.int (6 : Int32))]) (S := [(.ref b)]) (wd166 hw) (wd167 hw) (wd168 hw) (wd169 hw) (by decide) (c_cp2 l Z a0 hw [] ea mr y z h0 n0 Z0 M X V Xy Xz) (lenOf pd14 rfl) d_jdk_21_method_1_55 rfl (Nat.le_of_ble_eq_true rfl) (Nat.le_of_ble_eq_true rfl) (Nat.le_of_ble_eq_true rfl) (Nat.le_of_ble_eq_true rfl) rfl (pc' := 58) rfl ?_
  rintro v77 h77 ⟨x77, rfl, L77, K77, V77⟩
  have ne_b_x77 : b ≠ x77 := Nat.ne_of_lt (Nat.lt_of_lt_of_le (Exa.lt E) L77)
  have ne_ea_x77 : ea ≠ x77 := Nat.ne_of_lt (Nat.lt_of_lt_of_le (V.lt) L77)
  have ne_y_x77 : y ≠ x77 := Nat.ne_of_lt (Nat.lt_of_lt_of_le (Exa.lt Xy) L77)
  have ne_z_x77 : z ≠ x77 := Nat.ne_of_lt (Nat.lt_of_lt_of_le (Exa.lt Xz) L77)
  have lt_x77 : h0.size ≤ x77 := Nat.le_trans P0.1 L77
  have ge_x77 : n0 ≤ x77 := Nat.le_trans Z0 lt_x77
  have F77_elements_b := (Fld.keep Fe K77 (nin0))
  have F77_head_b := (Fld.keep Fh K77 (nin0))
  have F77_tail_b := (Fld.keep Ft K77 (nin0))
  have X77_b := (Exa.keep E K77)
  have X77_ea := (Exa.keep X K77)
  have X77_y := (Exa.keep Xy K77)
  have X77_z := (Exa.keep Xz K77)
  have V77_ea := (V.keep K77 (nin0))
  have P77 := (P0.trans K77 (all0))
  show Go _ _ _ _ _ _ _ _ _ _ _ h77 1 6 (mkF m 58 #[.val (.ref b), .val (.int (1 : Int32)), .val (.int (2 : Int32)), .val (.int (6 : Int32)), .val (.int ((2 : Int32) + (2 : Int32))), .unset, .unset, .unset, .unset] [(.ref x77), (.ref b)]) _
  refine Jvm.OwnWp.dupX1 K d_jdk_21_method_1_58 rfl rfl (pc' := 59) rfl ?_
  refine putf K (wd27 hw) Via.refl F77_elements_b X77_b (Or.inl (wd28 hw)) (wd12 hw) (ty := (.array (.object "java/lang/Object"))) (by decide) rfl rfl ge_b d_jdk_21_method_1_59 (pc' := 62) rfl ?_
  intro h78 W78
  have F78_head_b := (Fld.other W78 F77_head_b (Or.inr (sn_ArrayDeque_head_elements hw)))
  have F78_tail_b := (Fld.other W78 F77_tail_b (Or.inr (sn_ArrayDeque_tail_elements hw)))
  have X78_b := (Exa.wr W78 X77_b)
  have X78_ea := (Exa.wr W78 X77_ea)
  have X78_y := (Exa.wr W78 X77_y)
  have X78_z := (Exa.wr W78 X77_z)
  have V78_ea := (V77_ea.other W78 ne_ea_b)
  have V78_x77 := (V77.other W78 (Ne.symm ne_b_x77))
  have P78 := (P77.wr W78 (Or.inl (List.mem_of_getElem? (i := 0) rfl)))
  have F78_elements_b := Fld.same W78 F77_elements_b
  refine Jvm.OwnWp.astore K d_jdk_21_method_1_62 rfl (Ls' := #[.val (.ref b), .val (.int (1 : Int32)), .val (.int (2 : Int32)), .val (.int (6 : Int32)), .val (.int ((2 : Int32) + (2 : Int32))), .val (.ref x77), .unset, .unset, .unset]) rfl (pc' := 64) rfl ?_
  refine Jvm.OwnWp.aloadN K d_jdk_21_method_1_64 rfl rfl (pc' := 65) rfl ?_
  refine Jvm.OwnWp.getf K (wd70 hw) Via.refl F78_tail_b d_jdk_21_method_1_65 (pc' := 68) rfl ?_
  refine Jvm.OwnWp.aloadN K d_jdk_21_method_1_68 rfl rfl (pc' := 69) rfl ?_
  refine Jvm.OwnWp.getf K (wd73 hw) Via.refl F78_head_b d_jdk_21_method_1_69 (pc' := 72) rfl ?_
  refine icN K d_jdk_21_method_1_72 (by decide) (pc' := 75) rfl ?_
  refine Jvm.OwnWp.aloadN K d_jdk_21_method_1_75 rfl rfl (pc' := 76) rfl ?_
  refine Jvm.OwnWp.getf K (wd70 hw) Via.refl F78_tail_b d_jdk_21_method_1_76 (pc' := 79) rfl ?_
  refine Jvm.OwnWp.aloadN K d_jdk_21_method_1_79 rfl rfl (pc' := 80) rfl ?_
  refine Jvm.OwnWp.getf K (wd73 hw) Via.refl F78_head_b d_jdk_21_method_1_80 (pc' := 83) rfl ?_
  refine icN K d_jdk_21_method_1_83 (by decide) (pc' := 86) rfl ?_
  refine Jvm.OwnWp.aload K d_jdk_21_method_1_86 rfl rfl (pc' := 88) rfl ?_
  refine Jvm.OwnWp.aloadN K d_jdk_21_method_1_88 rfl rfl (pc' := 89) rfl ?_
  refine Jvm.OwnWp.getf K (wd73 hw) Via.refl F78_head_b d_jdk_21_method_1_89 (pc' := 92) rfl ?_
  refine aaload K (i := 0) V78_x77.vec rfl (by decide) rfl d_jdk_21_method_1_92 (pc' := 93) rfl ?_
  refine nullN K d_jdk_21_method_1_93 (pc' := 96) rfl ?_
  refine Jvm.OwnWp.iloadN K d_jdk_21_method_1_96 rfl (pc' := 97) rfl ?_
  refine Jvm.OwnWp.iloadN K d_jdk_21_method_1_97 rfl (pc' := 98) rfl ?_
  refine Jvm.OwnWp.isub K d_jdk_21_method_1_98 (pc' := 99) rfl ?_
  refine Jvm.OwnWp.istore K d_jdk_21_method_1_99 (Ls' := #[.val (.ref b), .val (.int (1 : Int32)), .val (.int (2 : Int32)), .val (.int (6 : Int32)), .val (.int ((2 : Int32) + (2 : Int32))), .val (.ref x77), .val (.int ((6 : Int32) - (2 : Int32))), .unset, .unset]) rfl (pc' := 101) rfl ?_
  refine Jvm.OwnWp.aload K d_jdk_21_method_1_101 rfl rfl (pc' := 103) rfl ?_
  refine Jvm.OwnWp.aloadN K d_jdk_21_method_1_103 rfl rfl (pc' := 104) rfl ?_
  refine Jvm.OwnWp.getf K (wd73 hw) Via.refl F78_head_b d_jdk_21_method_1_104 (pc' := 107) rfl ?_
  refine Jvm.OwnWp.aload K d_jdk_21_method_1_107 rfl rfl (pc' := 109) rfl ?_
  refine Jvm.OwnWp.aloadN K d_jdk_21_method_1_109 rfl rfl (pc' := 110) rfl ?_
  refine Jvm.OwnWp.getf K (wd73 hw) Via.refl F78_head_b d_jdk_21_method_1_110 (pc' := 113) rfl ?_
  refine Jvm.OwnWp.iload K d_jdk_21_method_1_113 rfl (pc' := 115) rfl ?_
  refine Jvm.OwnWp.iadd K d_jdk_21_method_1_115 (pc' := 116) rfl ?_
  refine Jvm.OwnWp.iloadN K d_jdk_21_method_1_116 rfl (pc' := 117) rfl ?_
  refine Jvm.OwnWp.aloadN K d_jdk_21_method_1_117 rfl rfl (pc' := 118) rfl ?_
  refine Jvm.OwnWp.getf K (wd73 hw) Via.refl F78_head_b d_jdk_21_method_1_118 (pc' := 121) rfl ?_
  refine Jvm.OwnWp.isub K d_jdk_21_method_1_121 (pc' := 122) rfl ?_
  refine acopyR K (P := 0) (D := 4) (N := 2) (wd188 hw) (wd187 hw) (wd185 hw) (wd186 hw) V78_x77 V78_x77 (by decide) (by decide) (by decide) (by simp) (by simp) (own_el6 X78_y X78_z (wd118 hw)) ge_x77 d_jdk_21_method_1_122 rfl (Nat.le_of_ble_eq_true rfl) (Nat.le_of_ble_eq_true rfl) (pc' := 125) rfl ?_
  rintro h79 zs79 K79 A79 ZL79 ZQ79
  have F79_elements_b := (Fld.keep F78_elements_b K79 (ninS ne_b_x77 (nin0)))
  have F79_head_b := (Fld.keep F78_head_b K79 (ninS ne_b_x77 (nin0)))
  have F79_tail_b := (Fld.keep F78_tail_b K79 (ninS ne_b_x77 (nin0)))
  have X79_b := (Exa.keep X78_b K79)
  have X79_ea := (Exa.keep X78_ea K79)
  have X79_y := (Exa.keep X78_y K79)
  have X79_z := (Exa.keep X78_z K79)
  have V79_ea := (V78_ea.keep K79 (ninS ne_ea_x77 (nin0)))
  have P79 := (P78.trans K79 (allS (Or.inr lt_x77) (all0)))
  have hl79 : zs79.length = 6 := ZL79
  refine Jvm.OwnWp.aloadN K d_jdk_21_method_1_125 rfl rfl (pc' := 126) rfl ?_
  refine Jvm.OwnWp.getf K (wd73 hw) Via.refl F79_head_b d_jdk_21_method_1_126 (pc' := 129) rfl ?_
  refine Jvm.OwnWp.istore K d_jdk_21_method_1_129 (Ls' := #[.val (.ref b), .val (.int (1 : Int32)), .val (.int (2 : Int32)), .val (.int (6 : Int32)), .val (.int ((2 : Int32) + (2 : Int32))), .val (.ref x77), .val (.int ((6 : Int32) - (2 : Int32))), .val (.int (0 : Int32)), .unset]) rfl (pc' := 131) rfl ?_
  refine Jvm.OwnWp.aloadN K d_jdk_21_method_1_131 rfl rfl (pc' := 132) rfl ?_
  refine Jvm.OwnWp.dup K d_jdk_21_method_1_132 rfl (pc' := 133) rfl ?_
  refine Jvm.OwnWp.getf K (wd73 hw) Via.refl F79_head_b d_jdk_21_method_1_133 (pc' := 136) rfl ?_
  refine Jvm.OwnWp.iload K d_jdk_21_method_1_136 rfl (pc' := 138) rfl ?_
  refine Jvm.OwnWp.iadd K d_jdk_21_method_1_138 (pc' := 139) rfl ?_
  refine Jvm.OwnWp.dupX1 K d_jdk_21_method_1_139 rfl rfl (pc' := 140) rfl ?_
  refine putf K (wd73 hw) Via.refl F79_head_b X79_b (Or.inl (wd74 hw)) (wd12 hw) (ty := .int) (by decide) rfl rfl ge_b d_jdk_21_method_1_140 (pc' := 143) rfl ?_
  intro h80 W80
  have F80_elements_b := (Fld.other W80 F79_elements_b (Or.inr (sn_ArrayDeque_elements_head hw)))
  have F80_tail_b := (Fld.other W80 F79_tail_b (Or.inr (sn_ArrayDeque_tail_head hw)))
  have X80_b := (Exa.wr W80 X79_b)
  have X80_ea := (Exa.wr W80 X79_ea)
  have X80_y := (Exa.wr W80 X79_y)
  have X80_z := (Exa.wr W80 X79_z)
  have V80_ea := (V79_ea.other W80 ne_ea_b)
  have V80_x77 := (A79.other W80 (Ne.symm ne_b_x77))
  have P80 := (P79.wr W80 (Or.inl (List.mem_of_getElem? (i := 0) rfl)))
  have F80_head_b := Fld.same W80 F79_head_b
  refine Jvm.OwnWp.istore K d_jdk_21_method_1_143 (Ls' := #[.val (.ref b), .val (.int (1 : Int32)), .val (.int (2 : Int32)), .val (.int (6 : Int32)), .val (.int ((2 : Int32) + (2 : Int32))), .val (.ref x77), .val (.int ((6 : Int32) - (2 : Int32))), .val (.int (0 : Int32)), .val (.int ((0 : Int32) + ((6 : Int32) - (2 : Int32))))]) rfl (pc' := 145) rfl ?_
  refine Jvm.OwnWp.iload K d_jdk_21_method_1_145 rfl (pc' := 147) rfl ?_
  refine Jvm.OwnWp.iload K d_jdk_21_method_1_147 rfl (pc' := 149) rfl ?_
  refine icN K d_jdk_21_method_1_149 (by decide) (pc' := 152) rfl ?_
  refine Jvm.OwnWp.aload K d_jdk_21_method_1_152 rfl rfl (pc' := 154) rfl ?_
  refine Jvm.OwnWp.iload K d_jdk_21_method_1_154 rfl (pc' := 156) rfl ?_
  refine Jvm.OwnWp.anull K d_jdk_21_method_1_156 (pc' := 157) rfl ?_
  refine aastore K (i := 0) V80_x77 (Or.inl rfl) (by decide) (by simp [hl79]) ge_x77 d_jdk_21_method_1_157 (pc' := 158) rfl ?_
  intro h81 W81
  have F81_elements_b := (Fld.other W81 F80_elements_b (Or.inl ne_b_x77))
  have F81_head_b := (Fld.other W81 F80_head_b (Or.inl ne_b_x77))
  have F81_tail_b := (Fld.other W81 F80_tail_b (Or.inl ne_b_x77))
  have X81_b := (Exa.wr W81 X80_b)
  have X81_ea := (Exa.wr W81 X80_ea)
  have X81_y := (Exa.wr W81 X80_y)
  have X81_z := (Exa.wr W81 X80_z)
  have V81_ea := (V80_ea.other W81 ne_ea_x77)
  have P81 := (P80.wr W81 (Or.inr lt_x77))
  have V81_x77 := V80_x77.set W81
  refine Jvm.OwnWp.iinc K (1 : Int32) d_jdk_21_method_1_158 (by decide) rfl (Ls' := #[.val (.ref b), .val (.int (1 : Int32)), .val (.int (2 : Int32)), .val (.int (6 : Int32)), .val (.int ((2 : Int32) + (2 : Int32))), .val (.ref x77), .val (.int ((6 : Int32) - (2 : Int32))), .val (.int ((0 : Int32) + (1 : Int32))), .val (.int ((0 : Int32) + ((6 : Int32) - (2 : Int32))))]) rfl (pc' := 161) rfl ?_
  refine goto' K d_jdk_21_method_1_161 (pc' := 145) (by decide) (by decide) ?_
  refine Jvm.OwnWp.iload K d_jdk_21_method_1_145 rfl (pc' := 147) rfl ?_
  refine Jvm.OwnWp.iload K d_jdk_21_method_1_147 rfl (pc' := 149) rfl ?_
  refine icN K d_jdk_21_method_1_149 (by decide) (pc' := 152) rfl ?_
  refine Jvm.OwnWp.aload K d_jdk_21_method_1_152 rfl rfl (pc' := 154) rfl ?_
  refine Jvm.OwnWp.iload K d_jdk_21_method_1_154 rfl (pc' := 156) rfl ?_
  refine Jvm.OwnWp.anull K d_jdk_21_method_1_156 (pc' := 157) rfl ?_
  refine aastore K (i := 1) V81_x77 (Or.inl rfl) (by decide) (by simp [hl79]) ge_x77 d_jdk_21_method_1_157 (pc' := 158) rfl ?_
  intro h82 W82
  have F82_elements_b := (Fld.other W82 F81_elements_b (Or.inl ne_b_x77))
  have F82_head_b := (Fld.other W82 F81_head_b (Or.inl ne_b_x77))
  have F82_tail_b := (Fld.other W82 F81_tail_b (Or.inl ne_b_x77))
  have X82_b := (Exa.wr W82 X81_b)
  have X82_ea := (Exa.wr W82 X81_ea)
  have X82_y := (Exa.wr W82 X81_y)
  have X82_z := (Exa.wr W82 X81_z)
  have V82_ea := (V81_ea.other W82 ne_ea_x77)
  have P82 := (P81.wr W82 (Or.inr lt_x77))
  have V82_x77 := V81_x77.set W82
  refine Jvm.OwnWp.iinc K (1 : Int32) d_jdk_21_method_1_158 (by decide) rfl (Ls' := #[.val (.ref b), .val (.int (1 : Int32)), .val (.int (2 : Int32)), .val (.int (6 : Int32)), .val (.int ((2 : Int32) + (2 : Int32))), .val (.ref x77), .val (.int ((6 : Int32) - (2 : Int32))), .val (.int (((0 : Int32) + (1 : Int32)) + (1 : Int32))), .val (.int ((0 : Int32) + ((6 : Int32) - (2 : Int32))))]) rfl (pc' := 161) rfl ?_
  refine goto' K d_jdk_21_method_1_161 (pc' := 145) (by decide) (by decide) ?_
  refine Jvm.OwnWp.iload K d_jdk_21_method_1_145 rfl (pc' := 147) rfl ?_
  refine Jvm.OwnWp.iload K d_jdk_21_method_1_147 rfl (pc' := 149) rfl ?_
  refine icN K d_jdk_21_method_1_149 (by decide) (pc' := 152) rfl ?_
  refine Jvm.OwnWp.aload K d_jdk_21_method_1_152 rfl rfl (pc' := 154) rfl ?_
  refine Jvm.OwnWp.iload K d_jdk_21_method_1_154 rfl (pc' := 156) rfl ?_
  refine Jvm.OwnWp.anull K d_jdk_21_method_1_156 (pc' := 157) rfl ?_
  refine aastore K (i := 2) V82_x77 (Or.inl rfl) (by decide) (by simp [hl79]) ge_x77 d_jdk_21_method_1_157 (pc' := 158) rfl ?_
  intro h83 W83
  have F83_elements_b := (Fld.other W83 F82_elements_b (Or.inl ne_b_x77))
  have F83_head_b := (Fld.other W83 F82_head_b (Or.inl ne_b_x77))
  have F83_tail_b := (Fld.other W83 F82_tail_b (Or.inl ne_b_x77))
  have X83_b := (Exa.wr W83 X82_b)
  have X83_ea := (Exa.wr W83 X82_ea)
  have X83_y := (Exa.wr W83 X82_y)
  have X83_z := (Exa.wr W83 X82_z)
  have V83_ea := (V82_ea.other W83 ne_ea_x77)
  have P83 := (P82.wr W83 (Or.inr lt_x77))
  have V83_x77 := V82_x77.set W83
  refine Jvm.OwnWp.iinc K (1 : Int32) d_jdk_21_method_1_158 (by decide) rfl (Ls' := #[.val (.ref b), .val (.int (1 : Int32)), .val (.int (2 : Int32)), .val (.int (6 : Int32)), .val (.int ((2 : Int32) + (2 : Int32))), .val (.ref x77), .val (.int ((6 : Int32) - (2 : Int32))), .val (.int ((((0 : Int32) + (1 : Int32)) + (1 : Int32)) + (1 : Int32))), .val (.int ((0 : Int32) + ((6 : Int32) - (2 : Int32))))]) rfl (pc' := 161) rfl ?_
  refine goto' K d_jdk_21_method_1_161 (pc' := 145) (by decide) (by decide) ?_
  refine Jvm.OwnWp.iload K d_jdk_21_method_1_145 rfl (pc' := 147) rfl ?_
  refine Jvm.OwnWp.iload K d_jdk_21_method_1_147 rfl (pc' := 149) rfl ?_
  refine icN K d_jdk_21_method_1_149 (by decide) (pc' := 152) rfl ?_
  refine Jvm.OwnWp.aload K d_jdk_21_method_1_152 rfl rfl (pc' := 154) rfl ?_
  refine Jvm.OwnWp.iload K d_jdk_21_method_1_154 rfl (pc' := 156) rfl ?_
  refine Jvm.OwnWp.anull K d_jdk_21_method_1_156 (pc' := 157) rfl ?_
  refine aastore K (i := 3) V83_x77 (Or.inl rfl) (by decide) (by simp [hl79]) ge_x77 d_jdk_21_method_1_157 (pc' := 158) rfl ?_
  intro h84 W84
  have F84_elements_b := (Fld.other W84 F83_elements_b (Or.inl ne_b_x77))
  have F84_head_b := (Fld.other W84 F83_head_b (Or.inl ne_b_x77))
  have F84_tail_b := (Fld.other W84 F83_tail_b (Or.inl ne_b_x77))
  have X84_b := (Exa.wr W84 X83_b)
  have X84_ea := (Exa.wr W84 X83_ea)
  have X84_y := (Exa.wr W84 X83_y)
  have X84_z := (Exa.wr W84 X83_z)
  have V84_ea := (V83_ea.other W84 ne_ea_x77)
  have P84 := (P83.wr W84 (Or.inr lt_x77))
  have V84_x77 := V83_x77.set W84
  refine Jvm.OwnWp.iinc K (1 : Int32) d_jdk_21_method_1_158 (by decide) rfl (Ls' := #[.val (.ref b), .val (.int (1 : Int32)), .val (.int (2 : Int32)), .val (.int (6 : Int32)), .val (.int ((2 : Int32) + (2 : Int32))), .val (.ref x77), .val (.int ((6 : Int32) - (2 : Int32))), .val (.int (((((0 : Int32) + (1 : Int32)) + (1 : Int32)) + (1 : Int32)) + (1 : Int32))), .val (.int ((0 : Int32) + ((6 : Int32) - (2 : Int32))))]) rfl (pc' := 161) rfl ?_
  refine goto' K d_jdk_21_method_1_161 (pc' := 145) (by decide) (by decide) ?_
  refine Jvm.OwnWp.iload K d_jdk_21_method_1_145 rfl (pc' := 147) rfl ?_
  refine Jvm.OwnWp.iload K d_jdk_21_method_1_147 rfl (pc' := 149) rfl ?_
  refine icY K d_jdk_21_method_1_149 (by decide) (pc' := 164) (by decide) (by decide) ?_
  refine retV K rfl d_jdk_21_method_1_164 (Nat.le_of_ble_eq_true rfl) (Nat.le_of_ble_eq_true rfl) ?_
  exact ⟨rfl, P84⟩
set_option maxRecDepth 65536 in
set_option maxHeartbeats 40000000 in
theorem c_addlP (l : Launch) (Z : State) (a0 : Array Value) (hw : ∀ d ∈ tables_1, d.before a0 Z = true) (ws : List Jvm.Cond) (b ea x mr y : Addr) (h0 : Heap) (n0 : Nat) (Z0 : n0 ≤ h0.size) (M : MirAt Z "[Ljava/lang/Object;" mr) (X : Exa Z h0 ea "[Ljava/lang/Object;") (E : Exa Z h0 b "java/util/ArrayDeque") (Fe : Fld Z h0 b "java/util/ArrayDeque" "elements" "[Ljava/lang/Object;" (.ref ea)) (Fh : Fld Z h0 b "java/util/ArrayDeque" "head" "I" (.int 0)) (Ft : Fld Z h0 b "java/util/ArrayDeque" "tail" "I" (.int 1)) (V : VecR Z h0 ea "java/lang/Object" [.ref y, .null]) (Xx : Exa Z h0 x "com/example/adaptive_mirror/adaptivemirror/net/InFlight$Frame") (ge_b : n0 ≤ b) (ge_ea : n0 ≤ ea) (ne_ea_b : ea ≠ b) (ne_x_ea : x ≠ ea) (ne_x_b : x ≠ b) (Xy : Exa Z h0 y "com/example/adaptive_mirror/adaptivemirror/net/InFlight$Frame") (ne_y_b : y ≠ b) (ne_y_ea : y ≠ ea) :
    Ctr l Z (⟨"java/util/ArrayDeque", "addLast", "(Ljava/lang/Object;)V"⟩ : MethodName) jdk_21_method_13_code 3 none ws ({ frames := 4, cells := 1, slots := 6, locals := 67 } : Room) n0 #[(.ref b), (.ref x)] h0 (fun v h => v = none ∧ Keep h0 h [b, ea]) := by
  refine ctr (own := "java/util/ArrayDeque") (nm := "addLast") rfl rfl (Ls := #[.val (.ref b), .val (.ref x), .unset]) (plainFor_of_name pn2) (fun m => by first | (simp [entryFrame, mkF, argsToLocals, Value.category]; done) | rfl) ?_
  intro p e s m below meth c K eh
  have P0 := Keep.refl h0 [b, ea]
  refine Jvm.OwnWp.aloadN K d_jdk_21_method_13_0 rfl rfl (pc' := 1) rfl ?_
  refine nonnullY K d_jdk_21_method_13_1 (pc' := 12) (by decide) (by decide) ?_
  refine Jvm.OwnWp.aloadN K d_jdk_21_method_13_12 rfl rfl (pc' := 13) rfl ?_
  refine Jvm.OwnWp.getf K (wd27 hw) Via.refl Fe d_jdk_21_method_13_13 (pc' := 16) rfl ?_
  refine Jvm.OwnWp.astoreN K d_jdk_21_method_13_16 rfl (Ls' := #[.val (.ref b), .val (.ref x), .val (.ref ea)]) rfl (pc' := 17) rfl ?_
  refine Jvm.OwnWp.aloadN K d_jdk_21_method_13_17 rfl rfl (pc' := 18) rfl ?_
  refine Jvm.OwnWp.aloadN K d_jdk_21_method_13_18 rfl rfl (pc' := 19) rfl ?_
  refine Jvm.OwnWp.getf K (wd70 hw) Via.refl Ft d_jdk_21_method_13_19 (pc' := 22) rfl ?_
  refine Jvm.OwnWp.aloadN K d_jdk_21_method_13_22 rfl rfl (pc' := 23) rfl ?_
  refine aastore K (i := 1) V (Or.inr ⟨x, rfl, Ins.of_exa Xx (wd118 hw)⟩) (by decide) (by simp) ge_ea d_jdk_21_method_13_23 (pc' := 24) rfl ?_
  intro h85 W85
  have F85_elements_b := (Fld.other W85 Fe (Or.inl (Ne.symm ne_ea_b)))
  have F85_head_b := (Fld.other W85 Fh (Or.inl (Ne.symm ne_ea_b)))
  have F85_tail_b := (Fld.other W85 Ft (Or.inl (Ne.symm ne_ea_b)))
  have X85_b := (Exa.wr W85 E)
  have X85_ea := (Exa.wr W85 X)
  have X85_x := (Exa.wr W85 Xx)
  have X85_y := (Exa.wr W85 Xy)
  have P85 := (P0.wr W85 (Or.inl (List.mem_of_getElem? (i := 1) rfl)))
  have V85_ea := V.set W85
  refine Jvm.OwnWp.aloadN K d_jdk_21_method_13_24 rfl rfl (pc' := 25) rfl ?_
  refine Jvm.OwnWp.getf K (wd73 hw) Via.refl F85_head_b d_jdk_21_method_13_25 (pc' := 28) rfl ?_
  refine Jvm.OwnWp.aloadN K d_jdk_21_method_13_28 rfl rfl (pc' := 29) rfl ?_
  refine Jvm.OwnWp.aloadN K d_jdk_21_method_13_29 rfl rfl (pc' := 30) rfl ?_
  refine Jvm.OwnWp.getf K (wd70 hw) Via.refl F85_tail_b d_jdk_21_method_13_30 (pc' := 33) rfl ?_
  refine Jvm.OwnWp.aloadN K d_jdk_21_method_13_33 rfl rfl (pc' := 34) rfl ?_
  refine alen K V85_ea.vec d_jdk_21_method_13_34 (pc' := 35) rfl ?_
  show Go _ _ _ _ _ _ _ _ _ _ _ h85 0 0 (mkF m 35 #[.val (.ref b), .val (.ref x), .val (.ref ea)] [(.int (2 : Int32)), (.int (1 : Int32)), (.ref b), (.int (0 : Int32))]) _
  refine callStatic K (y := (⟨"java/util/ArrayDeque", "inc", "(II)I"⟩ : MethodName)) (argsL := [(.int (1 : Int32)), (.int (2 : Int32))]) (S := [(.ref b), (.int (0 : Int32))]) (wd75 hw) (wd76 hw) (wd13 hw) (wd77 hw) (by decide) (c_inc1 l Z a0 hw [] h85 n0 (Nat.le_trans Z0 P85.1)) (lenOf pd1 rfl) d_jdk_21_method_13_35 rfl (Nat.le_of_ble_eq_true rfl) (Nat.le_of_ble_eq_true rfl) (Nat.le_of_ble_eq_true rfl) (Nat.le_of_ble_eq_true rfl) rfl (pc' := 38) rfl ?_
  rintro v86 h86 ⟨rfl, rfl⟩
  show Go _ _ _ _ _ _ _ _ _ _ _ h85 0 0 (mkF m 38 #[.val (.ref b), .val (.ref x), .val (.ref ea)] [(.int (0 : Int32)), (.ref b), (.int (0 : Int32))]) _
  refine Jvm.OwnWp.dupX1 K d_jdk_21_method_13_38 rfl rfl (pc' := 39) rfl ?_
  refine putf K (wd70 hw) Via.refl F85_tail_b X85_b (Or.inl (wd71 hw)) (wd12 hw) (ty := .int) (by decide) rfl rfl ge_b d_jdk_21_method_13_39 (pc' := 42) rfl ?_
  intro h87 W87
  have F87_elements_b := (Fld.other W87 F85_elements_b (Or.inr (sn_ArrayDeque_elements_tail hw)))
  have F87_head_b := (Fld.other W87 F85_head_b (Or.inr (sn_ArrayDeque_head_tail hw)))
  have X87_b := (Exa.wr W87 X85_b)
  have X87_ea := (Exa.wr W87 X85_ea)
  have X87_x := (Exa.wr W87 X85_x)
  have X87_y := (Exa.wr W87 X85_y)
  have V87_ea := (V85_ea.other W87 ne_ea_b)
  have P87 := (P85.wr W87 (Or.inl (List.mem_of_getElem? (i := 0) rfl)))
  have F87_tail_b := Fld.same W87 F85_tail_b
  refine icN K d_jdk_21_method_13_42 (by decide) (pc' := 45) rfl ?_
  refine Jvm.OwnWp.aloadN K d_jdk_21_method_13_45 rfl rfl (pc' := 46) rfl ?_
  refine Jvm.OwnWp.iconst K (1 : Int32) d_jdk_21_method_13_46 (by decide) (pc' := 47) rfl ?_
  refine callPriv K (y := (⟨"java/util/ArrayDeque", "grow", "(I)V"⟩ : MethodName)) (b := b) (argsL := [(.int (1 : Int32))]) (S := []) (wd160 hw) (wd161 hw) (wd162 hw) (wd12 hw) (wd13 hw) (wd164 hw) (by decide) X87_b (c_grow l Z a0 hw [] b ea mr y x h87 n0 (Nat.le_trans Z0 P87.1) M X87_ea X87_b F87_elements_b F87_head_b F87_tail_b V87_ea X87_y X87_x ge_b ne_ea_b ne_y_b ne_x_b) (lenOf pd5 rfl) d_jdk_21_method_13_47 rfl (Nat.le_of_ble_eq_true rfl) (Nat.le_of_ble_eq_true rfl) (Nat.le_of_ble_eq_true rfl) (Nat.le_of_ble_eq_true rfl) rfl (pc' := 50) rfl ?_
  rintro v88 h88 ⟨rfl, K88⟩
  have X88_b := (Exa.keep X87_b K88)
  have X88_ea := (Exa.keep X87_ea K88)
  have X88_x := (Exa.keep X87_x K88)
  have X88_y := (Exa.keep X87_y K88)
  have V88_ea := (V87_ea.keep K88 (ninS ne_ea_b (nin0)))
  have P88 := (P87.trans K88 (allS (Or.inl (List.mem_of_getElem? (i := 0) rfl)) (all0)))
  show Go _ _ _ _ _ _ _ _ _ _ _ h88 1 6 (mkF m 50 #[.val (.ref b), .val (.ref x), .val (.ref ea)] []) _
  refine retV K rfl d_jdk_21_method_13_50 (Nat.le_of_ble_eq_true rfl) (Nat.le_of_ble_eq_true rfl) ?_
  exact ⟨rfl, P88⟩
set_option maxRecDepth 65536 in
set_option maxHeartbeats 40000000 in
theorem c_addP (l : Launch) (Z : State) (a0 : Array Value) (hw : ∀ d ∈ tables_1, d.before a0 Z = true) (ws : List Jvm.Cond) (b ea x mr y : Addr) (h0 : Heap) (n0 : Nat) (Z0 : n0 ≤ h0.size) (M : MirAt Z "[Ljava/lang/Object;" mr) (X : Exa Z h0 ea "[Ljava/lang/Object;") (E : Exa Z h0 b "java/util/ArrayDeque") (Fe : Fld Z h0 b "java/util/ArrayDeque" "elements" "[Ljava/lang/Object;" (.ref ea)) (Fh : Fld Z h0 b "java/util/ArrayDeque" "head" "I" (.int 0)) (Ft : Fld Z h0 b "java/util/ArrayDeque" "tail" "I" (.int 1)) (V : VecR Z h0 ea "java/lang/Object" [.ref y, .null]) (Xx : Exa Z h0 x "com/example/adaptive_mirror/adaptivemirror/net/InFlight$Frame") (ge_b : n0 ≤ b) (ge_ea : n0 ≤ ea) (ne_ea_b : ea ≠ b) (ne_x_ea : x ≠ ea) (ne_x_b : x ≠ b) (Xy : Exa Z h0 y "com/example/adaptive_mirror/adaptivemirror/net/InFlight$Frame") (ne_y_b : y ≠ b) (ne_y_ea : y ≠ ea) :
    Ctr l Z (⟨"java/util/ArrayDeque", "add", "(Ljava/lang/Object;)Z"⟩ : MethodName) jdk_21_method_28_code 2 (some .boolean) ws ({ frames := 5, cells := 1, slots := 6, locals := 81 } : Room) n0 #[(.ref b), (.ref x)] h0 (fun v h => v = some (.int 1) ∧ Keep h0 h [b, ea]) := by
  refine ctr (own := "java/util/ArrayDeque") (nm := "add") rfl rfl (Ls := #[.val (.ref b), .val (.ref x)]) (plainFor_of_name pn2) (fun m => by first | (simp [entryFrame, mkF, argsToLocals, Value.category]; done) | rfl) ?_
  intro p e s m below meth c K eh
  have P0 := Keep.refl h0 [b, ea]
  refine Jvm.OwnWp.aloadN K d_jdk_21_method_28_0 rfl rfl (pc' := 1) rfl ?_
  refine Jvm.OwnWp.aloadN K d_jdk_21_method_28_1 rfl rfl (pc' := 2) rfl ?_
  refine callVirt K (y := (⟨"java/util/ArrayDeque", "addLast", "(Ljava/lang/Object;)V"⟩ : MethodName)) (b := b) (argsL := [(.ref x)]) (S := []) (wd65 hw) (wd66 hw) (wd68 hw) (wd67 hw) (wd13 hw) (wd69 hw) (by decide) E (c_addlP l Z a0 hw [] b ea x mr y h0 n0 Z0 M X E Fe Fh Ft V Xx ge_b ge_ea ne_ea_b ne_x_ea ne_x_b Xy ne_y_b ne_y_ea) (lenOf pd2 rfl) d_jdk_21_method_28_2 rfl (Nat.le_of_ble_eq_true rfl) (Nat.le_of_ble_eq_true rfl) (Nat.le_of_ble_eq_true rfl) (Nat.le_of_ble_eq_true rfl) rfl (pc' := 5) rfl ?_
  rintro v89 h89 ⟨rfl, K89⟩
  have X89_b := (Exa.keep E K89)
  have X89_ea := (Exa.keep X K89)
  have X89_x := (Exa.keep Xx K89)
  have X89_y := (Exa.keep Xy K89)
  have P89 := (P0.trans K89 (allS (Or.inl (List.mem_of_getElem? (i := 0) rfl)) (allS (Or.inl (List.mem_of_getElem? (i := 1) rfl)) (all0))))
  show Go _ _ _ _ _ _ _ _ _ _ _ h89 1 6 (mkF m 5 #[.val (.ref b), .val (.ref x)] []) _
  refine Jvm.OwnWp.iconst K (1 : Int32) d_jdk_21_method_28_5 (by decide) (pc' := 6) rfl ?_
  refine retB K (t := .boolean) rfl (by simp) d_jdk_21_method_28_6 (Nat.le_of_ble_eq_true rfl) (Nat.le_of_ble_eq_true rfl) ?_
  exact ⟨rfl, P89⟩
set_option maxRecDepth 65536 in
set_option maxHeartbeats 40000000 in
theorem c_addlQ (l : Launch) (Z : State) (a0 : Array Value) (hw : ∀ d ∈ tables_1, d.before a0 Z = true) (ws : List Jvm.Cond) (b ea x : Addr) (h0 : Heap) (n0 : Nat) (Z0 : n0 ≤ h0.size) (X : Exa Z h0 ea "[Ljava/lang/Object;") (E : Exa Z h0 b "java/util/ArrayDeque") (Fe : Fld Z h0 b "java/util/ArrayDeque" "elements" "[Ljava/lang/Object;" (.ref ea)) (Fh : Fld Z h0 b "java/util/ArrayDeque" "head" "I" (.int 1)) (Ft : Fld Z h0 b "java/util/ArrayDeque" "tail" "I" (.int 1)) (V : VecR Z h0 ea "java/lang/Object" [.null, .null]) (Xx : Exa Z h0 x "com/example/adaptive_mirror/adaptivemirror/net/InFlight$Frame") (ge_b : n0 ≤ b) (ge_ea : n0 ≤ ea) (ne_ea_b : ea ≠ b) (ne_x_ea : x ≠ ea) (ne_x_b : x ≠ b) :
    Ctr l Z (⟨"java/util/ArrayDeque", "addLast", "(Ljava/lang/Object;)V"⟩ : MethodName) jdk_21_method_13_code 3 none ws ({ frames := 1, cells := 0, slots := 0, locals := 15 } : Room) n0 #[(.ref b), (.ref x)] h0 (fun v h => v = none ∧ Keep h0 h [b, ea]) := by
  refine ctr (own := "java/util/ArrayDeque") (nm := "addLast") rfl rfl (Ls := #[.val (.ref b), .val (.ref x), .unset]) (plainFor_of_name pn2) (fun m => by first | (simp [entryFrame, mkF, argsToLocals, Value.category]; done) | rfl) ?_
  intro p e s m below meth c K eh
  have P0 := Keep.refl h0 [b, ea]
  refine Jvm.OwnWp.aloadN K d_jdk_21_method_13_0 rfl rfl (pc' := 1) rfl ?_
  refine nonnullY K d_jdk_21_method_13_1 (pc' := 12) (by decide) (by decide) ?_
  refine Jvm.OwnWp.aloadN K d_jdk_21_method_13_12 rfl rfl (pc' := 13) rfl ?_
  refine Jvm.OwnWp.getf K (wd27 hw) Via.refl Fe d_jdk_21_method_13_13 (pc' := 16) rfl ?_
  refine Jvm.OwnWp.astoreN K d_jdk_21_method_13_16 rfl (Ls' := #[.val (.ref b), .val (.ref x), .val (.ref ea)]) rfl (pc' := 17) rfl ?_
  refine Jvm.OwnWp.aloadN K d_jdk_21_method_13_17 rfl rfl (pc' := 18) rfl ?_
  refine Jvm.OwnWp.aloadN K d_jdk_21_method_13_18 rfl rfl (pc' := 19) rfl ?_
  refine Jvm.OwnWp.getf K (wd70 hw) Via.refl Ft d_jdk_21_method_13_19 (pc' := 22) rfl ?_
  refine Jvm.OwnWp.aloadN K d_jdk_21_method_13_22 rfl rfl (pc' := 23) rfl ?_
  refine aastore K (i := 1) V (Or.inr ⟨x, rfl, Ins.of_exa Xx (wd118 hw)⟩) (by decide) (by simp) ge_ea d_jdk_21_method_13_23 (pc' := 24) rfl ?_
  intro h90 W90
  have F90_elements_b := (Fld.other W90 Fe (Or.inl (Ne.symm ne_ea_b)))
  have F90_head_b := (Fld.other W90 Fh (Or.inl (Ne.symm ne_ea_b)))
  have F90_tail_b := (Fld.other W90 Ft (Or.inl (Ne.symm ne_ea_b)))
  have X90_b := (Exa.wr W90 E)
  have X90_ea := (Exa.wr W90 X)
  have X90_x := (Exa.wr W90 Xx)
  have P90 := (P0.wr W90 (Or.inl (List.mem_of_getElem? (i := 1) rfl)))
  have V90_ea := V.set W90
  refine Jvm.OwnWp.aloadN K d_jdk_21_method_13_24 rfl rfl (pc' := 25) rfl ?_
  refine Jvm.OwnWp.getf K (wd73 hw) Via.refl F90_head_b d_jdk_21_method_13_25 (pc' := 28) rfl ?_
  refine Jvm.OwnWp.aloadN K d_jdk_21_method_13_28 rfl rfl (pc' := 29) rfl ?_
  refine Jvm.OwnWp.aloadN K d_jdk_21_method_13_29 rfl rfl (pc' := 30) rfl ?_
  refine Jvm.OwnWp.getf K (wd70 hw) Via.refl F90_tail_b d_jdk_21_method_13_30 (pc' := 33) rfl ?_
  refine Jvm.OwnWp.aloadN K d_jdk_21_method_13_33 rfl rfl (pc' := 34) rfl ?_
  refine alen K V90_ea.vec d_jdk_21_method_13_34 (pc' := 35) rfl ?_
  show Go _ _ _ _ _ _ _ _ _ _ _ h90 0 0 (mkF m 35 #[.val (.ref b), .val (.ref x), .val (.ref ea)] [(.int (2 : Int32)), (.int (1 : Int32)), (.ref b), (.int (1 : Int32))]) _
  refine callStatic K (y := (⟨"java/util/ArrayDeque", "inc", "(II)I"⟩ : MethodName)) (argsL := [(.int (1 : Int32)), (.int (2 : Int32))]) (S := [(.ref b), (.int (1 : Int32))]) (wd75 hw) (wd76 hw) (wd13 hw) (wd77 hw) (by decide) (c_inc1 l Z a0 hw [] h90 n0 (Nat.le_trans Z0 P90.1)) (lenOf pd1 rfl) d_jdk_21_method_13_35 rfl (Nat.le_of_ble_eq_true rfl) (Nat.le_of_ble_eq_true rfl) (Nat.le_of_ble_eq_true rfl) (Nat.le_of_ble_eq_true rfl) rfl (pc' := 38) rfl ?_
  rintro v91 h91 ⟨rfl, rfl⟩
  show Go _ _ _ _ _ _ _ _ _ _ _ h90 0 0 (mkF m 38 #[.val (.ref b), .val (.ref x), .val (.ref ea)] [(.int (0 : Int32)), (.ref b), (.int (1 : Int32))]) _
  refine Jvm.OwnWp.dupX1 K d_jdk_21_method_13_38 rfl rfl (pc' := 39) rfl ?_
  refine putf K (wd70 hw) Via.refl F90_tail_b X90_b (Or.inl (wd71 hw)) (wd12 hw) (ty := .int) (by decide) rfl rfl ge_b d_jdk_21_method_13_39 (pc' := 42) rfl ?_
  intro h92 W92
  have F92_elements_b := (Fld.other W92 F90_elements_b (Or.inr (sn_ArrayDeque_elements_tail hw)))
  have F92_head_b := (Fld.other W92 F90_head_b (Or.inr (sn_ArrayDeque_head_tail hw)))
  have X92_b := (Exa.wr W92 X90_b)
  have X92_ea := (Exa.wr W92 X90_ea)
  have X92_x := (Exa.wr W92 X90_x)
  have V92_ea := (V90_ea.other W92 ne_ea_b)
  have P92 := (P90.wr W92 (Or.inl (List.mem_of_getElem? (i := 0) rfl)))
  have F92_tail_b := Fld.same W92 F90_tail_b
  refine icY K d_jdk_21_method_13_42 (by decide) (pc' := 50) (by decide) (by decide) ?_
  refine retV K rfl d_jdk_21_method_13_50 (Nat.le_of_ble_eq_true rfl) (Nat.le_of_ble_eq_true rfl) ?_
  exact ⟨rfl, P92⟩
set_option maxRecDepth 65536 in
set_option maxHeartbeats 40000000 in
theorem c_addQ (l : Launch) (Z : State) (a0 : Array Value) (hw : ∀ d ∈ tables_1, d.before a0 Z = true) (ws : List Jvm.Cond) (b ea x : Addr) (h0 : Heap) (n0 : Nat) (Z0 : n0 ≤ h0.size) (X : Exa Z h0 ea "[Ljava/lang/Object;") (E : Exa Z h0 b "java/util/ArrayDeque") (Fe : Fld Z h0 b "java/util/ArrayDeque" "elements" "[Ljava/lang/Object;" (.ref ea)) (Fh : Fld Z h0 b "java/util/ArrayDeque" "head" "I" (.int 1)) (Ft : Fld Z h0 b "java/util/ArrayDeque" "tail" "I" (.int 1)) (V : VecR Z h0 ea "java/lang/Object" [.null, .null]) (Xx : Exa Z h0 x "com/example/adaptive_mirror/adaptivemirror/net/InFlight$Frame") (ge_b : n0 ≤ b) (ge_ea : n0 ≤ ea) (ne_ea_b : ea ≠ b) (ne_x_ea : x ≠ ea) (ne_x_b : x ≠ b) :
    Ctr l Z (⟨"java/util/ArrayDeque", "add", "(Ljava/lang/Object;)Z"⟩ : MethodName) jdk_21_method_28_code 2 (some .boolean) ws ({ frames := 2, cells := 0, slots := 0, locals := 29 } : Room) n0 #[(.ref b), (.ref x)] h0 (fun v h => v = some (.int 1) ∧ Keep h0 h [b, ea]) := by
  refine ctr (own := "java/util/ArrayDeque") (nm := "add") rfl rfl (Ls := #[.val (.ref b), .val (.ref x)]) (plainFor_of_name pn2) (fun m => by first | (simp [entryFrame, mkF, argsToLocals, Value.category]; done) | rfl) ?_
  intro p e s m below meth c K eh
  have P0 := Keep.refl h0 [b, ea]
  refine Jvm.OwnWp.aloadN K d_jdk_21_method_28_0 rfl rfl (pc' := 1) rfl ?_
  refine Jvm.OwnWp.aloadN K d_jdk_21_method_28_1 rfl rfl (pc' := 2) rfl ?_
  refine callVirt K (y := (⟨"java/util/ArrayDeque", "addLast", "(Ljava/lang/Object;)V"⟩ : MethodName)) (b := b) (argsL := [(.ref x)]) (S := []) (wd65 hw) (wd66 hw) (wd68 hw) (wd67 hw) (wd13 hw) (wd69 hw) (by decide) E (c_addlQ l Z a0 hw [] b ea x h0 n0 Z0 X E Fe Fh Ft V Xx ge_b ge_ea ne_ea_b ne_x_ea ne_x_b) (lenOf pd2 rfl) d_jdk_21_method_28_2 rfl (Nat.le_of_ble_eq_true rfl) (Nat.le_of_ble_eq_true rfl) (Nat.le_of_ble_eq_true rfl) (Nat.le_of_ble_eq_true rfl) rfl (pc' := 5) rfl ?_
  rintro v93 h93 ⟨rfl, K93⟩
  have X93_b := (Exa.keep E K93)
  have X93_ea := (Exa.keep X K93)
  have X93_x := (Exa.keep Xx K93)
  have P93 := (P0.trans K93 (allS (Or.inl (List.mem_of_getElem? (i := 0) rfl)) (allS (Or.inl (List.mem_of_getElem? (i := 1) rfl)) (all0))))
  show Go _ _ _ _ _ _ _ _ _ _ _ h93 0 0 (mkF m 5 #[.val (.ref b), .val (.ref x)] []) _
  refine Jvm.OwnWp.iconst K (1 : Int32) d_jdk_21_method_28_5 (by decide) (pc' := 6) rfl ?_
  refine retB K (t := .boolean) rfl (by simp) d_jdk_21_method_28_6 (Nat.le_of_ble_eq_true rfl) (Nat.le_of_ble_eq_true rfl) ?_
  exact ⟨rfl, P93⟩
set_option maxRecDepth 65536 in
set_option maxHeartbeats 40000000 in
theorem c_wri2 (l : Launch) (Z : State) (a0 : Array Value) (hw : ∀ d ∈ tables_1, d.before a0 Z = true) (ws : List Jvm.Cond) (f fr fe y mr : Addr) (wv q cv ss now : Int64) (h0 : Heap) (n0 : Nat) (Z0 : n0 ≤ h0.size) (M : MirAt Z "[Ljava/lang/Object;" mr) (E_f : Exa Z h0 f "com/example/adaptive_mirror/adaptivemirror/net/InFlight") (F_frames : Fld Z h0 f "com/example/adaptive_mirror/adaptivemirror/net/InFlight" "frames" "Ljava/util/Queue;" (.ref fr)) (F_written : Fld Z h0 f "com/example/adaptive_mirror/adaptivemirror/net/InFlight" "written" "J" (.long wv)) (F_acknowledged : Fld Z h0 f "com/example/adaptive_mirror/adaptivemirror/net/InFlight" "acknowledged" "J" (.long q)) (F_carried : Fld Z h0 f "com/example/adaptive_mirror/adaptivemirror/net/InFlight" "carried" "J" (.long cv)) (AB : (Exa Z h0 fe "[Ljava/lang/Object;" ∧ Exa Z h0 fr "java/util/ArrayDeque" ∧ Fld Z h0 fr "java/util/ArrayDeque" "elements" "[Ljava/lang/Object;" (.ref fe) ∧ Fld Z h0 fr "java/util/ArrayDeque" "head" "I" (.int 0) ∧ Fld Z h0 fr "java/util/ArrayDeque" "tail" "I" (.int 1) ∧ VecR Z h0 fe "java/lang/Object" [.ref y, .null]) ∨ (Exa Z h0 fe "[Ljava/lang/Object;" ∧ Exa Z h0 fr "java/util/ArrayDeque" ∧ Fld Z h0 fr "java/util/ArrayDeque" "elements" "[Ljava/lang/Object;" (.ref fe) ∧ Fld Z h0 fr "java/util/ArrayDeque" "head" "I" (.int 1) ∧ Fld Z h0 fr "java/util/ArrayDeque" "tail" "I" (.int 1) ∧ VecR Z h0 fe "java/lang/Object" [.null, .null])) (Xy : Exa Z h0 y "com/example/adaptive_mirror/adaptivemirror/net/InFlight$Frame") (ne_fr_f : fr ≠ f) (ne_fe_f : fe ≠ f) (ne_y_f : y ≠ f) (ne_fe_fr : fe ≠ fr) (ne_y_fr : y ≠ fr) (ne_y_fe : y ≠ fe) (ge_f : n0 ≤ f) (ge_fr : n0 ≤ fr) (ge_fe : n0 ≤ fe) :
    Ctr l Z (⟨"com/example/adaptive_mirror/adaptivemirror/net/InFlight", "written", "(JJ)J"⟩ : MethodName) prog_89_method_6_code 7 (some .long) ws ({ frames := 6, cells := 2, slots := 10, locals := 94 } : Room) n0 #[(.ref f), (.long ss), (.long now)] h0 (fun v h => v = some (.long wv) ∧ Keep h0 h [f, fr, fe] ∧ Fld Z h f "com/example/adaptive_mirror/adaptivemirror/net/InFlight" "written" "J" (.long (wv + ss)) ∧ Fld Z h f "com/example/adaptive_mirror/adaptivemirror/net/InFlight" "acknowledged" "J" (.long q)) := by
  refine ctr (own := "com/example/adaptive_mirror/adaptivemirror/net/InFlight") (nm := "written") rfl rfl (Ls := #[.val (.ref f), .val (.long ss), .second, .val (.long now), .second, .unset, .unset]) (plainFor_of_name pn5) (fun m => by first | (simp [entryFrame, mkF, argsToLocals, Value.category]; done) | rfl) ?_
  intro p e s m below meth c K eh
  have P0 := Keep.refl h0 [f, fr, fe]
  rcases AB with ⟨rX, rE, rFe, rFh, rFt, rV⟩ | ⟨rX, rE, rFe, rFh, rFt, rV⟩
  · refine Jvm.OwnWp.aloadN K d_prog_89_method_6_0 rfl rfl (pc' := 1) rfl ?_
    refine Jvm.OwnWp.getf K (wd36 hw) Via.refl F_written d_prog_89_method_6_1 (pc' := 4) rfl ?_
    refine Jvm.OwnWp.lstore K d_prog_89_method_6_4 (Ls' := #[.val (.ref f), .val (.long ss), .second, .val (.long now), .second, .val (.long wv), .second]) rfl (pc' := 6) rfl ?_
    refine Jvm.OwnWp.aloadN K d_prog_89_method_6_6 rfl rfl (pc' := 7) rfl ?_
    refine Jvm.OwnWp.dup K d_prog_89_method_6_7 rfl (pc' := 8) rfl ?_
    refine Jvm.OwnWp.getf K (wd36 hw) Via.refl F_written d_prog_89_method_6_8 (pc' := 11) rfl ?_
    refine Jvm.OwnWp.lloadN K d_prog_89_method_6_11 rfl (pc' := 12) rfl ?_
    refine Jvm.OwnWp.ladd K d_prog_89_method_6_12 (pc' := 13) rfl ?_
    refine putf K (wd36 hw) Via.refl F_written E_f (Or.inl (wd37 hw)) (wd3 hw) (ty := .long) (by decide) rfl rfl ge_f d_prog_89_method_6_13 (pc' := 16) rfl ?_
    intro h94 W94
    have F94_frames_f := (Fld.other W94 F_frames (Or.inr (sn_InFlight_frames_written hw)))
    have F94_acknowledged_f := (Fld.other W94 F_acknowledged (Or.inr (sn_InFlight_acknowledged_written hw)))
    have F94_carried_f := (Fld.other W94 F_carried (Or.inr (sn_InFlight_carried_written hw)))
    have F94_elements_fr := (Fld.other W94 rFe (Or.inl ne_fr_f))
    have F94_head_fr := (Fld.other W94 rFh (Or.inl ne_fr_f))
    have F94_tail_fr := (Fld.other W94 rFt (Or.inl ne_fr_f))
    have X94_f := (Exa.wr W94 E_f)
    have X94_y := (Exa.wr W94 Xy)
    have X94_fr := (Exa.wr W94 rE)
    have X94_fe := (Exa.wr W94 rX)
    have V94_fe := (rV.other W94 ne_fe_f)
    have P94 := (P0.wr W94 (Or.inl (List.mem_of_getElem? (i := 0) rfl)))
    have F94_written_f := Fld.same W94 F_written
    refine Jvm.OwnWp.aloadN K d_prog_89_method_6_16 rfl rfl (pc' := 17) rfl ?_
    refine Jvm.OwnWp.getf K (wd29 hw) Via.refl F94_frames_f d_prog_89_method_6_17 (pc' := 20) rfl ?_
    refine newObj K (wd90 hw) (wd91 hw) (wd92 hw) d_prog_89_method_6_20 (by decide) (by decide) (pc' := 23) rfl ?_
    intro h95 b95 g95 E95 A95 D95
    have ne_f_b95 : f ≠ b95 := Nat.ne_of_lt (Nat.lt_of_lt_of_eq (Exa.lt X94_f) g95.symm)
    have ne_fr_b95 : fr ≠ b95 := Nat.ne_of_lt (Nat.lt_of_lt_of_eq (Exa.lt X94_fr) g95.symm)
    have ne_y_b95 : y ≠ b95 := Nat.ne_of_lt (Nat.lt_of_lt_of_eq (Exa.lt X94_y) g95.symm)
    have ne_fe_b95 : fe ≠ b95 := Nat.ne_of_lt (Nat.lt_of_lt_of_eq (V94_fe.lt) g95.symm)
    have lt_b95 : h0.size ≤ b95 := Nat.le_trans P94.1 (Nat.le_of_eq g95.symm)
    have ge_b95 : n0 ≤ b95 := Nat.le_trans Z0 lt_b95
    have F95_frames_f := (Fld.ext E95 F94_frames_f)
    have F95_written_f := (Fld.ext E95 F94_written_f)
    have F95_acknowledged_f := (Fld.ext E95 F94_acknowledged_f)
    have F95_carried_f := (Fld.ext E95 F94_carried_f)
    have F95_elements_fr := (Fld.ext E95 F94_elements_fr)
    have F95_head_fr := (Fld.ext E95 F94_head_fr)
    have F95_tail_fr := (Fld.ext E95 F94_tail_fr)
    have X95_f := (Exa.ext E95 X94_f)
    have X95_y := (Exa.ext E95 X94_y)
    have X95_fr := (Exa.ext E95 X94_fr)
    have X95_fe := (Exa.ext E95 X94_fe)
    have V95_fe := (V94_fe.ext E95)
    have P95 := (P94.ext E95)
    have F95_end_b95 : Fld Z h95 b95 "com/example/adaptive_mirror/adaptivemirror/net/InFlight$Frame" "end" "J" (.long (0 : Int64)) := D95 (Or.inr (wd111 hw)) (ty := .long) (by decide)
    have F95_began_b95 : Fld Z h95 b95 "com/example/adaptive_mirror/adaptivemirror/net/InFlight$Frame" "began" "J" (.long (0 : Int64)) := D95 (Or.inr (wd113 hw)) (ty := .long) (by decide)
    have F95_acknowledgedThen_b95 : Fld Z h95 b95 "com/example/adaptive_mirror/adaptivemirror/net/InFlight$Frame" "acknowledgedThen" "J" (.long (0 : Int64)) := D95 (Or.inr (wd115 hw)) (ty := .long) (by decide)
    have F95_limitThen_b95 : Fld Z h95 b95 "com/example/adaptive_mirror/adaptivemirror/net/InFlight$Frame" "limitThen" "J" (.long (0 : Int64)) := D95 (Or.inr (wd117 hw)) (ty := .long) (by decide)
    refine Jvm.OwnWp.dup K d_prog_89_method_6_23 rfl (pc' := 24) rfl ?_
    refine Jvm.OwnWp.aloadN K d_prog_89_method_6_24 rfl rfl (pc' := 25) rfl ?_
    refine Jvm.OwnWp.getf K (wd36 hw) Via.refl F95_written_f d_prog_89_method_6_25 (pc' := 28) rfl ?_
    refine Jvm.OwnWp.lloadN K d_prog_89_method_6_28 rfl (pc' := 29) rfl ?_
    refine Jvm.OwnWp.aloadN K d_prog_89_method_6_29 rfl rfl (pc' := 30) rfl ?_
    refine Jvm.OwnWp.getf K (wd83 hw) Via.refl F95_acknowledged_f d_prog_89_method_6_30 (pc' := 33) rfl ?_
    refine Jvm.OwnWp.aloadN K d_prog_89_method_6_33 rfl rfl (pc' := 34) rfl ?_
    refine callVirt K (y := (⟨"com/example/adaptive_mirror/adaptivemirror/net/InFlight", "limit", "()J"⟩ : MethodName)) (b := f) (argsL := []) (S := [(.long q), (.long now), (.long (wv + ss)), (.ref b95), (.ref b95), (.ref fr)]) (wd93 hw) (wd94 hw) (wd96 hw) (wd95 hw) (wd4 hw) (wd97 hw) (by decide) X95_f (c_lim l Z a0 hw [] f cv h95 n0 (Nat.le_trans Z0 P95.1) F95_carried_f) (lenOf pd9 rfl) d_prog_89_method_6_34 rfl (Nat.le_of_ble_eq_true rfl) (Nat.le_of_ble_eq_true rfl) (Nat.le_of_ble_eq_true rfl) (Nat.le_of_ble_eq_true rfl) rfl (pc' := 37) rfl ?_
    rintro v96 h96 ⟨rfl, rfl⟩
    show Go _ _ _ _ _ _ _ _ _ _ _ h95 1 4 (mkF m 37 #[.val (.ref f), .val (.long ss), .second, .val (.long now), .second, .val (.long wv), .second] [(.long (if (65536 : Int64) < 2 * cv then 2 * cv else 65536)), (.long q), (.long now), (.long (wv + ss)), (.ref b95), (.ref b95), (.ref fr)]) _
    generalize (if (65536 : Int64) < 2 * cv then 2 * cv else 65536) = lm
    refine callInitRef K (y := (⟨"com/example/adaptive_mirror/adaptivemirror/net/InFlight$Frame", "<init>", "(JJJJ)V"⟩ : MethodName)) (b := b95) (argsL := [(.long (wv + ss)), (.long now), (.long q), (.long lm)]) (S := [(.ref b95), (.ref fr)]) rfl (wd106 hw) (wd107 hw) (wd92 hw) (wd108 hw) rfl (by decide) (c_fra l Z a0 hw [] b95 (wv + ss) now q lm h95 n0 (Nat.le_trans Z0 P95.1) A95 ge_b95 F95_end_b95 F95_began_b95 F95_acknowledgedThen_b95 F95_limitThen_b95) (lenOf pd10 rfl) d_prog_89_method_6_37 rfl (Nat.le_of_ble_eq_true rfl) (Nat.le_of_ble_eq_true rfl) (Nat.le_of_ble_eq_true rfl) (Nat.le_of_ble_eq_true rfl) rfl (pc' := 40) rfl ?_
    rintro v97 h97 ⟨rfl, K97, Q97_Y_end, Q97_Y_began, Q97_Y_acknowledgedThen, Q97_Y_limitThen⟩
    have F97_frames_f := (Fld.keep F95_frames_f K97 (ninS ne_f_b95 (nin0)))
    have F97_written_f := (Fld.keep F95_written_f K97 (ninS ne_f_b95 (nin0)))
    have F97_acknowledged_f := (Fld.keep F95_acknowledged_f K97 (ninS ne_f_b95 (nin0)))
    have F97_carried_f := (Fld.keep F95_carried_f K97 (ninS ne_f_b95 (nin0)))
    have F97_elements_fr := (Fld.keep F95_elements_fr K97 (ninS ne_fr_b95 (nin0)))
    have F97_head_fr := (Fld.keep F95_head_fr K97 (ninS ne_fr_b95 (nin0)))
    have F97_tail_fr := (Fld.keep F95_tail_fr K97 (ninS ne_fr_b95 (nin0)))
    have X97_f := (Exa.keep X95_f K97)
    have X97_y := (Exa.keep X95_y K97)
    have X97_fr := (Exa.keep X95_fr K97)
    have X97_fe := (Exa.keep X95_fe K97)
    have X97_b95 := (Exa.keep A95 K97)
    have V97_fe := (V95_fe.keep K97 (ninS ne_fe_b95 (nin0)))
    have P97 := (P95.trans K97 (allS (Or.inr lt_b95) (all0)))
    show Go _ _ _ _ _ _ _ _ _ _ _ h97 1 4 (mkF m 40 #[.val (.ref f), .val (.long ss), .second, .val (.long now), .second, .val (.long wv), .second] [(.ref b95), (.ref fr)]) _
    refine callFace K (y := (⟨"java/util/Queue", "add", "(Ljava/lang/Object;)Z"⟩ : MethodName)) (z := (⟨"java/util/ArrayDeque", "add", "(Ljava/lang/Object;)Z"⟩ : MethodName)) (b := fr) (argsL := [(.ref b95)]) (S := []) (wd56 hw) (wd57 hw) (wd58 hw) (by first | rfl | simp [Cond.onTables, Cond.keepsFace, Cond.keeps, Cond.steady, Cond.faceAtom]) (wd59 hw) (wd60 hw) (wd61 hw) (wd62 hw) (wd63 hw) (wd13 hw) (wd64 hw) (by decide) X97_fr (c_addP l Z a0 hw [] fr fe b95 mr y h97 n0 (Nat.le_trans Z0 P97.1) M X97_fe X97_fr F97_elements_fr F97_head_fr F97_tail_fr V97_fe X97_b95 ge_fr ge_fe ne_fe_fr (Ne.symm ne_fe_b95) (Ne.symm ne_fr_b95) X97_y ne_y_fr ne_y_fe) (lenOf pd7 rfl) d_prog_89_method_6_40 rfl (Nat.le_of_ble_eq_true rfl) (Nat.le_of_ble_eq_true rfl) (Nat.le_of_ble_eq_true rfl) (Nat.le_of_ble_eq_true rfl) rfl (pc' := 45) rfl ?_
    rintro v98 h98 ⟨rfl, K98⟩
    have F98_frames_f := (Fld.keep F97_frames_f K98 (ninS (Ne.symm ne_fr_f) (ninS (Ne.symm ne_fe_f) (nin0))))
    have F98_written_f := (Fld.keep F97_written_f K98 (ninS (Ne.symm ne_fr_f) (ninS (Ne.symm ne_fe_f) (nin0))))
    have F98_acknowledged_f := (Fld.keep F97_acknowledged_f K98 (ninS (Ne.symm ne_fr_f) (ninS (Ne.symm ne_fe_f) (nin0))))
    have F98_carried_f := (Fld.keep F97_carried_f K98 (ninS (Ne.symm ne_fr_f) (ninS (Ne.symm ne_fe_f) (nin0))))
    have X98_f := (Exa.keep X97_f K98)
    have X98_y := (Exa.keep X97_y K98)
    have X98_fr := (Exa.keep X97_fr K98)
    have X98_fe := (Exa.keep X97_fe K98)
    have X98_b95 := (Exa.keep X97_b95 K98)
    have P98 := (P97.trans K98 (allS (Or.inl (List.mem_of_getElem? (i := 1) rfl)) (allS (Or.inl (List.mem_of_getElem? (i := 2) rfl)) (all0))))
    show Go _ _ _ _ _ _ _ _ _ _ _ h98 2 10 (mkF m 45 #[.val (.ref f), .val (.long ss), .second, .val (.long now), .second, .val (.long wv), .second] [(.int (1 : Int32))]) _
    refine Jvm.OwnWp.pop K d_prog_89_method_6_45 rfl (pc' := 46) rfl ?_
    refine Jvm.OwnWp.lload K d_prog_89_method_6_46 rfl (pc' := 48) rfl ?_
    refine retL K rfl d_prog_89_method_6_48 (Nat.le_of_ble_eq_true rfl) (Nat.le_of_ble_eq_true rfl) ?_
    exact ⟨rfl, P98, F98_written_f, F98_acknowledged_f⟩
  · refine Jvm.OwnWp.aloadN K d_prog_89_method_6_0 rfl rfl (pc' := 1) rfl ?_
    refine Jvm.OwnWp.getf K (wd36 hw) Via.refl F_written d_prog_89_method_6_1 (pc' := 4) rfl ?_
    refine Jvm.OwnWp.lstore K d_prog_89_method_6_4 (Ls' := #[.val (.ref f), .val (.long ss), .second, .val (.long now), .second, .val (.long wv), .second]) rfl (pc' := 6) rfl ?_
    refine Jvm.OwnWp.aloadN K d_prog_89_method_6_6 rfl rfl (pc' := 7) rfl ?_
    refine Jvm.OwnWp.dup K d_prog_89_method_6_7 rfl (pc' := 8) rfl ?_
    refine Jvm.OwnWp.getf K (wd36 hw) Via.refl F_written d_prog_89_method_6_8 (pc' := 11) rfl ?_
    refine Jvm.OwnWp.lloadN K d_prog_89_method_6_11 rfl (pc' := 12) rfl ?_
    refine Jvm.OwnWp.ladd K d_prog_89_method_6_12 (pc' := 13) rfl ?_
    refine putf K (wd36 hw) Via.refl F_written E_f (Or.inl (wd37 hw)) (wd3 hw) (ty := .long) (by decide) rfl rfl ge_f d_prog_89_method_6_13 (pc' := 16) rfl ?_
    intro h99 W99
    have F99_frames_f := (Fld.other W99 F_frames (Or.inr (sn_InFlight_frames_written hw)))
    have F99_acknowledged_f := (Fld.other W99 F_acknowledged (Or.inr (sn_InFlight_acknowledged_written hw)))
    have F99_carried_f := (Fld.other W99 F_carried (Or.inr (sn_InFlight_carried_written hw)))
    have F99_elements_fr := (Fld.other W99 rFe (Or.inl ne_fr_f))
    have F99_head_fr := (Fld.other W99 rFh (Or.inl ne_fr_f))
    have F99_tail_fr := (Fld.other W99 rFt (Or.inl ne_fr_f))
    have X99_f := (Exa.wr W99 E_f)
    have X99_y := (Exa.wr W99 Xy)
    have X99_fr := (Exa.wr W99 rE)
    have X99_fe := (Exa.wr W99 rX)
    have V99_fe := (rV.other W99 ne_fe_f)
    have P99 := (P0.wr W99 (Or.inl (List.mem_of_getElem? (i := 0) rfl)))
    have F99_written_f := Fld.same W99 F_written
    refine Jvm.OwnWp.aloadN K d_prog_89_method_6_16 rfl rfl (pc' := 17) rfl ?_
    refine Jvm.OwnWp.getf K (wd29 hw) Via.refl F99_frames_f d_prog_89_method_6_17 (pc' := 20) rfl ?_
    refine newObj K (wd90 hw) (wd91 hw) (wd92 hw) d_prog_89_method_6_20 (by decide) (by decide) (pc' := 23) rfl ?_
    intro h100 b100 g100 E100 A100 D100
    have ne_f_b100 : f ≠ b100 := Nat.ne_of_lt (Nat.lt_of_lt_of_eq (Exa.lt X99_f) g100.symm)
    have ne_fr_b100 : fr ≠ b100 := Nat.ne_of_lt (Nat.lt_of_lt_of_eq (Exa.lt X99_fr) g100.symm)
    have ne_y_b100 : y ≠ b100 := Nat.ne_of_lt (Nat.lt_of_lt_of_eq (Exa.lt X99_y) g100.symm)
    have ne_fe_b100 : fe ≠ b100 := Nat.ne_of_lt (Nat.lt_of_lt_of_eq (V99_fe.lt) g100.symm)
    have lt_b100 : h0.size ≤ b100 := Nat.le_trans P99.1 (Nat.le_of_eq g100.symm)
    have ge_b100 : n0 ≤ b100 := Nat.le_trans Z0 lt_b100
    have F100_frames_f := (Fld.ext E100 F99_frames_f)
    have F100_written_f := (Fld.ext E100 F99_written_f)
    have F100_acknowledged_f := (Fld.ext E100 F99_acknowledged_f)
    have F100_carried_f := (Fld.ext E100 F99_carried_f)
    have F100_elements_fr := (Fld.ext E100 F99_elements_fr)
    have F100_head_fr := (Fld.ext E100 F99_head_fr)
    have F100_tail_fr := (Fld.ext E100 F99_tail_fr)
    have X100_f := (Exa.ext E100 X99_f)
    have X100_y := (Exa.ext E100 X99_y)
    have X100_fr := (Exa.ext E100 X99_fr)
    have X100_fe := (Exa.ext E100 X99_fe)
    have V100_fe := (V99_fe.ext E100)
    have P100 := (P99.ext E100)
    have F100_end_b100 : Fld Z h100 b100 "com/example/adaptive_mirror/adaptivemirror/net/InFlight$Frame" "end" "J" (.long (0 : Int64)) := D100 (Or.inr (wd111 hw)) (ty := .long) (by decide)
    have F100_began_b100 : Fld Z h100 b100 "com/example/adaptive_mirror/adaptivemirror/net/InFlight$Frame" "began" "J" (.long (0 : Int64)) := D100 (Or.inr (wd113 hw)) (ty := .long) (by decide)
    have F100_acknowledgedThen_b100 : Fld Z h100 b100 "com/example/adaptive_mirror/adaptivemirror/net/InFlight$Frame" "acknowledgedThen" "J" (.long (0 : Int64)) := D100 (Or.inr (wd115 hw)) (ty := .long) (by decide)
    have F100_limitThen_b100 : Fld Z h100 b100 "com/example/adaptive_mirror/adaptivemirror/net/InFlight$Frame" "limitThen" "J" (.long (0 : Int64)) := D100 (Or.inr (wd117 hw)) (ty := .long) (by decide)
    refine Jvm.OwnWp.dup K d_prog_89_method_6_23 rfl (pc' := 24) rfl ?_
    refine Jvm.OwnWp.aloadN K d_prog_89_method_6_24 rfl rfl (pc' := 25) rfl ?_
    refine Jvm.OwnWp.getf K (wd36 hw) Via.refl F100_written_f d_prog_89_method_6_25 (pc' := 28) rfl ?_
    refine Jvm.OwnWp.lloadN K d_prog_89_method_6_28 rfl (pc' := 29) rfl ?_
    refine Jvm.OwnWp.aloadN K d_prog_89_method_6_29 rfl rfl (pc' := 30) rfl ?_
    refine Jvm.OwnWp.getf K (wd83 hw) Via.refl F100_acknowledged_f d_prog_89_method_6_30 (pc' := 33) rfl ?_
    refine Jvm.OwnWp.aloadN K d_prog_89_method_6_33 rfl rfl (pc' := 34) rfl ?_
    refine callVirt K (y := (⟨"com/example/adaptive_mirror/adaptivemirror/net/InFlight", "limit", "()J"⟩ : MethodName)) (b := f) (argsL := []) (S := [(.long q), (.long now), (.long (wv + ss)), (.ref b100), (.ref b100), (.ref fr)]) (wd93 hw) (wd94 hw) (wd96 hw) (wd95 hw) (wd4 hw) (wd97 hw) (by decide) X100_f (c_lim l Z a0 hw [] f cv h100 n0 (Nat.le_trans Z0 P100.1) F100_carried_f) (lenOf pd9 rfl) d_prog_89_method_6_34 rfl (Nat.le_of_ble_eq_true rfl) (Nat.le_of_ble_eq_true rfl) (Nat.le_of_ble_eq_true rfl) (Nat.le_of_ble_eq_true rfl) rfl (pc' := 37) rfl ?_
    rintro v101 h101 ⟨rfl, rfl⟩
    show Go _ _ _ _ _ _ _ _ _ _ _ h100 1 4 (mkF m 37 #[.val (.ref f), .val (.long ss), .second, .val (.long now), .second, .val (.long wv), .second] [(.long (if (65536 : Int64) < 2 * cv then 2 * cv else 65536)), (.long q), (.long now), (.long (wv + ss)), (.ref b100), (.ref b100), (.ref fr)]) _
    generalize (if (65536 : Int64) < 2 * cv then 2 * cv else 65536) = lm
    refine callInitRef K (y := (⟨"com/example/adaptive_mirror/adaptivemirror/net/InFlight$Frame", "<init>", "(JJJJ)V"⟩ : MethodName)) (b := b100) (argsL := [(.long (wv + ss)), (.long now), (.long q), (.long lm)]) (S := [(.ref b100), (.ref fr)]) rfl (wd106 hw) (wd107 hw) (wd92 hw) (wd108 hw) rfl (by decide) (c_fra l Z a0 hw [] b100 (wv + ss) now q lm h100 n0 (Nat.le_trans Z0 P100.1) A100 ge_b100 F100_end_b100 F100_began_b100 F100_acknowledgedThen_b100 F100_limitThen_b100) (lenOf pd10 rfl) d_prog_89_method_6_37 rfl (Nat.le_of_ble_eq_true rfl) (Nat.le_of_ble_eq_true rfl) (Nat.le_of_ble_eq_true rfl) (Nat.le_of_ble_eq_true rfl) rfl (pc' := 40) rfl ?_
    rintro v102 h102 ⟨rfl, K102, Q102_Y_end, Q102_Y_began, Q102_Y_acknowledgedThen, Q102_Y_limitThen⟩
    have F102_frames_f := (Fld.keep F100_frames_f K102 (ninS ne_f_b100 (nin0)))
    have F102_written_f := (Fld.keep F100_written_f K102 (ninS ne_f_b100 (nin0)))
    have F102_acknowledged_f := (Fld.keep F100_acknowledged_f K102 (ninS ne_f_b100 (nin0)))
    have F102_carried_f := (Fld.keep F100_carried_f K102 (ninS ne_f_b100 (nin0)))
    have F102_elements_fr := (Fld.keep F100_elements_fr K102 (ninS ne_fr_b100 (nin0)))
    have F102_head_fr := (Fld.keep F100_head_fr K102 (ninS ne_fr_b100 (nin0)))
    have F102_tail_fr := (Fld.keep F100_tail_fr K102 (ninS ne_fr_b100 (nin0)))
    have X102_f := (Exa.keep X100_f K102)
    have X102_y := (Exa.keep X100_y K102)
    have X102_fr := (Exa.keep X100_fr K102)
    have X102_fe := (Exa.keep X100_fe K102)
    have X102_b100 := (Exa.keep A100 K102)
    have V102_fe := (V100_fe.keep K102 (ninS ne_fe_b100 (nin0)))
    have P102 := (P100.trans K102 (allS (Or.inr lt_b100) (all0)))
    show Go _ _ _ _ _ _ _ _ _ _ _ h102 1 4 (mkF m 40 #[.val (.ref f), .val (.long ss), .second, .val (.long now), .second, .val (.long wv), .second] [(.ref b100), (.ref fr)]) _
    refine callFace K (y := (⟨"java/util/Queue", "add", "(Ljava/lang/Object;)Z"⟩ : MethodName)) (z := (⟨"java/util/ArrayDeque", "add", "(Ljava/lang/Object;)Z"⟩ : MethodName)) (b := fr) (argsL := [(.ref b100)]) (S := []) (wd56 hw) (wd57 hw) (wd58 hw) (by first | rfl | simp [Cond.onTables, Cond.keepsFace, Cond.keeps, Cond.steady, Cond.faceAtom]) (wd59 hw) (wd60 hw) (wd61 hw) (wd62 hw) (wd63 hw) (wd13 hw) (wd64 hw) (by decide) X102_fr (c_addQ l Z a0 hw [] fr fe b100 h102 n0 (Nat.le_trans Z0 P102.1) X102_fe X102_fr F102_elements_fr F102_head_fr F102_tail_fr V102_fe X102_b100 ge_fr ge_fe ne_fe_fr (Ne.symm ne_fe_b100) (Ne.symm ne_fr_b100)) (lenOf pd7 rfl) d_prog_89_method_6_40 rfl (Nat.le_of_ble_eq_true rfl) (Nat.le_of_ble_eq_true rfl) (Nat.le_of_ble_eq_true rfl) (Nat.le_of_ble_eq_true rfl) rfl (pc' := 45) rfl ?_
    rintro v103 h103 ⟨rfl, K103⟩
    have F103_frames_f := (Fld.keep F102_frames_f K103 (ninS (Ne.symm ne_fr_f) (ninS (Ne.symm ne_fe_f) (nin0))))
    have F103_written_f := (Fld.keep F102_written_f K103 (ninS (Ne.symm ne_fr_f) (ninS (Ne.symm ne_fe_f) (nin0))))
    have F103_acknowledged_f := (Fld.keep F102_acknowledged_f K103 (ninS (Ne.symm ne_fr_f) (ninS (Ne.symm ne_fe_f) (nin0))))
    have F103_carried_f := (Fld.keep F102_carried_f K103 (ninS (Ne.symm ne_fr_f) (ninS (Ne.symm ne_fe_f) (nin0))))
    have X103_f := (Exa.keep X102_f K103)
    have X103_y := (Exa.keep X102_y K103)
    have X103_fr := (Exa.keep X102_fr K103)
    have X103_fe := (Exa.keep X102_fe K103)
    have X103_b100 := (Exa.keep X102_b100 K103)
    have P103 := (P102.trans K103 (allS (Or.inl (List.mem_of_getElem? (i := 1) rfl)) (allS (Or.inl (List.mem_of_getElem? (i := 2) rfl)) (all0))))
    show Go _ _ _ _ _ _ _ _ _ _ _ h103 1 4 (mkF m 45 #[.val (.ref f), .val (.long ss), .second, .val (.long now), .second, .val (.long wv), .second] [(.int (1 : Int32))]) _
    refine Jvm.OwnWp.pop K d_prog_89_method_6_45 rfl (pc' := 46) rfl ?_
    refine Jvm.OwnWp.lload K d_prog_89_method_6_46 rfl (pc' := 48) rfl ?_
    refine retL K rfl d_prog_89_method_6_48 (Nat.le_of_ble_eq_true rfl) (Nat.le_of_ble_eq_true rfl) ?_
    exact ⟨rfl, P103, F103_written_f, F103_acknowledged_f⟩
theorem own_m40 (x : Int64) : 0 ≤ (x &&& 1099511627775).toInt ∧ (x &&& 1099511627775).toInt ≤ 1099511627775 := by
  rw [c_maskL x 1099511627775 40 (by decide) (by decide)]
  exact ⟨Int.emod_nonneg _ (by decide), by have := Int.emod_lt_of_pos x.toInt (b := ((2 ^ 40 : Nat) : Int)) (by decide); omega⟩
theorem own_m63 (x : Int64) : 0 ≤ (x &&& 9223372036854775807).toInt := by
  rw [c_maskL x 9223372036854775807 63 (by decide) (by decide)]
  exact Int.emod_nonneg _ (by decide)
theorem own_add {a b : Int64} (h1 : 0 ≤ a.toInt) (h2 : 0 ≤ b.toInt) (h3 : a.toInt + b.toInt ≤ 9223372036854775807) : (a + b).toInt = a.toInt + b.toInt := by
  rw [Int64.toInt_add]; exact Int.bmod_eq_of_le (by omega) (by omega)
theorem own_q (x w : Int64) (h1 : 0 ≤ w.toInt) (h2 : w.toInt ≤ 9223372036854775806) : w + 1 ≠ 0 ∧ 0 ≤ ((x &&& 9223372036854775807) % (w + 1)).toInt ∧ ((x &&& 9223372036854775807) % (w + 1)).toInt ≤ w.toInt := by
  have e : (w + 1).toInt = w.toInt + 1 := own_add h1 (by decide) (by show w.toInt + 1 ≤ _; omega)
  have m := own_m63 x
  refine ⟨fun q => ?_, ?_⟩
  · rw [q] at e; simp only [Int64.reduceToInt] at e; omega
  · rw [Int64.toInt_mod, e]
    exact ⟨Int.tmod_nonneg _ m, by have := Int.tmod_lt_of_pos (x &&& 9223372036854775807).toInt (b := w.toInt + 1) (by omega); omega⟩
theorem own_pins {q w : Int64} (h1 : 0 ≤ q.toInt) (h2 : q.toInt ≤ w.toInt) : ¬ q < 0 ∧ ¬ w < q := by
  simp only [Int64.lt_iff_toInt_lt, Int64.reduceToInt]; omega
theorem own_grow {a b q : Int64} (h : 0 ≤ b.toInt) (e : (a + b).toInt = a.toInt + b.toInt) : q < a → q < a + b := by
  simp only [Int64.lt_iff_toInt_lt, e]; omega
theorem own_z40 : 0 ≤ (0 : Int64).toInt ∧ (0 : Int64).toInt ≤ 1099511627775 := by decide
set_option maxRecDepth 65536 in
set_option maxHeartbeats 40000000 in
theorem c_law (l : Launch) (Z : State) (a0 : Array Value) (hw : ∀ d ∈ tables_1, d.before a0 Z = true) (ws : List Jvm.Cond) (pa pb pc_ pd_ now : Int64) (mode : Int32) (mr : Addr) (h0 : Heap) (n0 : Nat) (Z0 : n0 ≤ h0.size) (M : MirAt Z "[Ljava/lang/Object;" mr) :
    Ctr l Z x code maxLocals ret ws room_1 n0 #[(.long pa), (.long pb), (.long pc_), (.long pd_), (.long now), (.int mode)] h0 (fun v h => v = some (.int 1)) := by
  refine ctr (own := "com/example/adaptive_mirror/adaptivemirror/net/InFlightIsEmptyPinLaw") (nm := "law") rfl rfl (Ls := #[.val (.long pa), .second, .val (.long pb), .second, .val (.long pc_), .second, .val (.long pd_), .second, .val (.long now), .second, .val (.int mode), .unset, .unset, .unset, .unset, .unset, .unset, .unset, .unset, .unset, .unset, .unset, .unset, .unset, .unset, .unset]) (plainFor_of_name pn7) (fun m => by first | (simp [entryFrame, mkF, argsToLocals, Value.category, maxLocals]; done) | rfl) ?_
  intro p e s m below meth c K eh
  have P0 := Keep.refl h0 []
  refine Jvm.OwnWp.iload K at_0 rfl (pc' := 2) rfl ?_
  refine Jvm.OwnWp.iconst K (1 : Int32) at_2 (by decide) (pc' := 3) rfl ?_
  refine Jvm.OwnWp.iand K at_3 (pc' := 4) rfl ?_
  have J1 : ∀ (hh : Int64), 0 ≤ hh.toInt ∧ hh.toInt ≤ 1099511627775 → Go p l e room_1 s m #[(.long pa), (.long pb), (.long pc_), (.long pd_), (.long now), (.int mode)] below meth c n0 h0 0 0 (mkF m 16 #[.val (.long pa), .second, .val (.long pb), .second, .val (.long pc_), .second, .val (.long pd_), .second, .val (.long now), .second, .val (.int mode), .unset, .unset, .unset, .unset, .unset, .unset, .unset, .unset, .unset, .unset, .unset, .unset, .unset, .unset, .unset] [(.long hh)]) (fun v h => v = some (.int 1)) := by
    intro hh m_hh
    refine Jvm.OwnWp.lstore K at_16 (Ls' := #[.val (.long pa), .second, .val (.long pb), .second, .val (.long pc_), .second, .val (.long pd_), .second, .val (.long now), .second, .val (.int mode), .val (.long hh), .second, .unset, .unset, .unset, .unset, .unset, .unset, .unset, .unset, .unset, .unset, .unset, .unset, .unset]) rfl (pc' := 18) rfl ?_
    refine Jvm.OwnWp.iload K at_18 rfl (pc' := 20) rfl ?_
    refine Jvm.OwnWp.iconst K (2 : Int32) at_20 (by decide) (pc' := 21) rfl ?_
    refine Jvm.OwnWp.iand K at_21 (pc' := 22) rfl ?_
    have J2 : ∀ (ss : Int64), 0 ≤ ss.toInt ∧ ss.toInt ≤ 1099511627775 → Go p l e room_1 s m #[(.long pa), (.long pb), (.long pc_), (.long pd_), (.long now), (.int mode)] below meth c n0 h0 0 0 (mkF m 34 #[.val (.long pa), .second, .val (.long pb), .second, .val (.long pc_), .second, .val (.long pd_), .second, .val (.long now), .second, .val (.int mode), .val (.long hh), .second, .unset, .unset, .unset, .unset, .unset, .unset, .unset, .unset, .unset, .unset, .unset, .unset, .unset] [(.long ss)]) (fun v h => v = some (.int 1)) := by
      intro ss m_ss
      refine Jvm.OwnWp.lstore K at_34 (Ls' := #[.val (.long pa), .second, .val (.long pb), .second, .val (.long pc_), .second, .val (.long pd_), .second, .val (.long now), .second, .val (.int mode), .val (.long hh), .second, .val (.long ss), .second, .unset, .unset, .unset, .unset, .unset, .unset, .unset, .unset, .unset, .unset, .unset]) rfl (pc' := 36) rfl ?_
      refine Jvm.OwnWp.iload K at_36 rfl (pc' := 38) rfl ?_
      refine Jvm.OwnWp.iconst K (4 : Int32) at_38 (by decide) (pc' := 39) rfl ?_
      refine Jvm.OwnWp.iand K at_39 (pc' := 40) rfl ?_
      have J3 : ∀ (s2 : Int64), 0 ≤ s2.toInt ∧ s2.toInt ≤ 1099511627775 → Go p l e room_1 s m #[(.long pa), (.long pb), (.long pc_), (.long pd_), (.long now), (.int mode)] below meth c n0 h0 0 0 (mkF m 53 #[.val (.long pa), .second, .val (.long pb), .second, .val (.long pc_), .second, .val (.long pd_), .second, .val (.long now), .second, .val (.int mode), .val (.long hh), .second, .val (.long ss), .second, .unset, .unset, .unset, .unset, .unset, .unset, .unset, .unset, .unset, .unset, .unset] [(.long s2)]) (fun v h => v = some (.int 1)) := by
        intro s2 m_s2
        refine Jvm.OwnWp.lstore K at_53 (Ls' := #[.val (.long pa), .second, .val (.long pb), .second, .val (.long pc_), .second, .val (.long pd_), .second, .val (.long now), .second, .val (.int mode), .val (.long hh), .second, .val (.long ss), .second, .val (.long s2), .second, .unset, .unset, .unset, .unset, .unset, .unset, .unset, .unset, .unset]) rfl (pc' := 55) rfl ?_
        refine Jvm.OwnWp.lload K at_55 rfl (pc' := 57) rfl ?_
        refine Jvm.OwnWp.lload K at_57 rfl (pc' := 59) rfl ?_
        refine Jvm.OwnWp.ladd K at_59 (pc' := 60) rfl ?_
        refine Jvm.OwnWp.lstore K at_60 (Ls' := #[.val (.long pa), .second, .val (.long pb), .second, .val (.long pc_), .second, .val (.long pd_), .second, .val (.long now), .second, .val (.int mode), .val (.long hh), .second, .val (.long ss), .second, .val (.long s2), .second, .val (.long (hh + ss)), .second, .unset, .unset, .unset, .unset, .unset, .unset, .unset]) rfl (pc' := 62) rfl ?_
        refine Jvm.OwnWp.iload K at_62 rfl (pc' := 64) rfl ?_
        refine Jvm.OwnWp.bipush K (8 : Int32) at_64 (by decide) (pc' := 66) rfl ?_
        refine Jvm.OwnWp.iand K at_66 (pc' := 67) rfl ?_
        have ea := own_add m_hh.1 m_ss.1 (by omega)
        have b1 : 0 ≤ (hh + ss).toInt := by omega
        have b2 : (hh + ss).toInt ≤ 9223372036854775806 := by omega
        obtain ⟨nz, q1, q2⟩ := own_q pc_ (hh + ss) b1 b2
        have J4 : ∀ (q : Int64), 0 ≤ q.toInt ∧ q.toInt ≤ (hh + ss).toInt → Go p l e room_1 s m #[(.long pa), (.long pb), (.long pc_), (.long pd_), (.long now), (.int mode)] below meth c n0 h0 0 0 (mkF m 86 #[.val (.long pa), .second, .val (.long pb), .second, .val (.long pc_), .second, .val (.long pd_), .second, .val (.long now), .second, .val (.int mode), .val (.long hh), .second, .val (.long ss), .second, .val (.long s2), .second, .val (.long (hh + ss)), .second, .unset, .unset, .unset, .unset, .unset, .unset, .unset] [(.long q)]) (fun v h => v = some (.int 1)) := by
          intro q m_q
          obtain ⟨p1, p2⟩ := own_pins m_q.1 m_q.2
          refine Jvm.OwnWp.lstore K at_86 (Ls' := #[.val (.long pa), .second, .val (.long pb), .second, .val (.long pc_), .second, .val (.long pd_), .second, .val (.long now), .second, .val (.int mode), .val (.long hh), .second, .val (.long ss), .second, .val (.long s2), .second, .val (.long (hh + ss)), .second, .val (.long q), .second, .unset, .unset, .unset, .unset, .unset]) rfl (pc' := 88) rfl ?_
          refine newObj K (wd2 hw) (wd3 hw) (wd4 hw) at_88 (by decide) (by decide) (pc' := 91) rfl ?_
          intro h104 b104 g104 E104 A104 D104
          have lt_b104 : h0.size ≤ b104 := Nat.le_trans P0.1 (Nat.le_of_eq g104.symm)
          have ge_b104 : n0 ≤ b104 := Nat.le_trans Z0 lt_b104
          have P104 := (P0.ext E104)
          have F104_frames_b104 : Fld Z h104 b104 "com/example/adaptive_mirror/adaptivemirror/net/InFlight" "frames" "Ljava/util/Queue;" .null := D104 (Or.inr (wd30 hw)) (ty := (.object "java/util/Queue")) (by decide)
          have F104_flushes_b104 : Fld Z h104 b104 "com/example/adaptive_mirror/adaptivemirror/net/InFlight" "flushes" "Ljava/util/Queue;" .null := D104 (Or.inr (wd32 hw)) (ty := (.object "java/util/Queue")) (by decide)
          have F104_roundTrip_b104 : Fld Z h104 b104 "com/example/adaptive_mirror/adaptivemirror/net/InFlight" "roundTrip" "J" (.long (0 : Int64)) := D104 (Or.inl (wd35 hw)) (ty := .long) (by decide)
          have F104_written_b104 : Fld Z h104 b104 "com/example/adaptive_mirror/adaptivemirror/net/InFlight" "written" "J" (.long (0 : Int64)) := D104 (Or.inl (wd37 hw)) (ty := .long) (by decide)
          have F104_flushed_b104 : Fld Z h104 b104 "com/example/adaptive_mirror/adaptivemirror/net/InFlight" "flushed" "J" (.long (0 : Int64)) := D104 (Or.inl (wd39 hw)) (ty := .long) (by decide)
          have F104_acknowledged_b104 : Fld Z h104 b104 "com/example/adaptive_mirror/adaptivemirror/net/InFlight" "acknowledged" "J" (.long (0 : Int64)) := D104 (Or.inl (wd84 hw)) (ty := .long) (by decide)
          have F104_carried_b104 : Fld Z h104 b104 "com/example/adaptive_mirror/adaptivemirror/net/InFlight" "carried" "J" (.long (0 : Int64)) := D104 (Or.inl (wd101 hw)) (ty := .long) (by decide)
          have F104_carriedAt_b104 : Fld Z h104 b104 "com/example/adaptive_mirror/adaptivemirror/net/InFlight" "carriedAt" "J" (.long (0 : Int64)) := D104 (Or.inl (wd235 hw)) (ty := .long) (by decide)
          refine Jvm.OwnWp.dup K at_91 rfl (pc' := 92) rfl ?_
          refine Jvm.OwnWp.lload K at_92 rfl (pc' := 94) rfl ?_
          refine Jvm.OwnWp.lload K at_94 rfl (pc' := 96) rfl ?_
          refine callInit K (y := (⟨"com/example/adaptive_mirror/adaptivemirror/net/InFlight", "<init>", "(JJ)V"⟩ : MethodName)) (b := b104) (argsL := [(.long hh), (.long now)]) (S := [(.ref b104)]) rfl (wd5 hw) (wd6 hw) (wd4 hw) (wd7 hw) rfl (by decide) (c_ifi l Z a0 hw [] b104 hh now h104 n0 (Nat.le_trans Z0 P104.1) A104 ge_b104 F104_frames_b104 F104_flushes_b104 F104_roundTrip_b104 F104_written_b104 F104_flushed_b104 F104_acknowledged_b104 F104_carried_b104 F104_carriedAt_b104) (lenOf pd6 rfl) at_96 rfl (Nat.le_of_ble_eq_true rfl) (Nat.le_of_ble_eq_true rfl) (Nat.le_of_ble_eq_true rfl) (Nat.le_of_ble_eq_true rfl) rfl (pc' := 99) rfl ?_
          rintro v105 h105 ⟨rfl, K105, fr, fe, fu, ue, xx, L105_fr, L105_fe, L105_fu, L105_ue, L105_xx, N105_fr_f, N105_fe_f, N105_fu_f, N105_ue_f, N105_x_f, N105_fe_fr, N105_fu_fr, N105_ue_fr, N105_x_fr, N105_fu_fe, N105_ue_fe, N105_x_fe, N105_ue_fu, N105_x_fu, N105_x_ue, Q105_E_f, Q105_F_frames, Q105_F_flushes, Q105_F_roundTrip, Q105_F_written, Q105_F_flushed, Q105_F_acknowledged, Q105_F_carried, Q105_F_carriedAt, Q105_rX, Q105_rE, Q105_rFe, Q105_rFh, Q105_rFt, Q105_rV, Q105_uX, Q105_uE, Q105_uFe, Q105_uFh, Q105_uFt, Q105_uV, Q105_E_x, Q105_X_end, Q105_X_at⟩
          have ne_b104_fr : b104 ≠ fr := Nat.ne_of_lt (Nat.lt_of_lt_of_le (Exa.lt A104) L105_fr)
          have lt_fr : h0.size ≤ fr := Nat.le_trans P104.1 L105_fr
          have ge_fr : n0 ≤ fr := Nat.le_trans Z0 lt_fr
          have ne_b104_fe : b104 ≠ fe := Nat.ne_of_lt (Nat.lt_of_lt_of_le (Exa.lt A104) L105_fe)
          have lt_fe : h0.size ≤ fe := Nat.le_trans P104.1 L105_fe
          have ge_fe : n0 ≤ fe := Nat.le_trans Z0 lt_fe
          have ne_b104_fu : b104 ≠ fu := Nat.ne_of_lt (Nat.lt_of_lt_of_le (Exa.lt A104) L105_fu)
          have lt_fu : h0.size ≤ fu := Nat.le_trans P104.1 L105_fu
          have ge_fu : n0 ≤ fu := Nat.le_trans Z0 lt_fu
          have ne_b104_ue : b104 ≠ ue := Nat.ne_of_lt (Nat.lt_of_lt_of_le (Exa.lt A104) L105_ue)
          have lt_ue : h0.size ≤ ue := Nat.le_trans P104.1 L105_ue
          have ge_ue : n0 ≤ ue := Nat.le_trans Z0 lt_ue
          have ne_b104_xx : b104 ≠ xx := Nat.ne_of_lt (Nat.lt_of_lt_of_le (Exa.lt A104) L105_xx)
          have lt_xx : h0.size ≤ xx := Nat.le_trans P104.1 L105_xx
          have ge_xx : n0 ≤ xx := Nat.le_trans Z0 lt_xx
          have X105_b104 := (Exa.keep A104 K105)
          have P105 := (P104.trans K105 (allS (Or.inr lt_b104) (all0)))
          show Go _ _ _ _ _ _ _ _ _ _ _ h105 6 20 (mkF m 99 #[.val (.long pa), .second, .val (.long pb), .second, .val (.long pc_), .second, .val (.long pd_), .second, .val (.long now), .second, .val (.int mode), .val (.long hh), .second, .val (.long ss), .second, .val (.long s2), .second, .val (.long (hh + ss)), .second, .val (.long q), .second, .unset, .unset, .unset, .unset, .unset] [(.ref b104)]) _
          refine Jvm.OwnWp.astore K at_99 rfl (Ls' := #[.val (.long pa), .second, .val (.long pb), .second, .val (.long pc_), .second, .val (.long pd_), .second, .val (.long now), .second, .val (.int mode), .val (.long hh), .second, .val (.long ss), .second, .val (.long s2), .second, .val (.long (hh + ss)), .second, .val (.long q), .second, .val (.ref b104), .unset, .unset, .unset, .unset]) rfl (pc' := 101) rfl ?_
          refine Jvm.OwnWp.aload K at_101 rfl rfl (pc' := 103) rfl ?_
          refine callVirt K (y := (⟨"com/example/adaptive_mirror/adaptivemirror/net/InFlight", "isEmpty", "()Z"⟩ : MethodName)) (b := b104) (argsL := []) (S := []) (wd78 hw) (wd79 hw) (wd81 hw) (wd80 hw) (wd4 hw) (wd82 hw) (by decide) Q105_E_f (c_ife l Z a0 hw [] b104 hh (0 : Int64) h105 n0 (Nat.le_trans Z0 P105.1) Q105_F_written Q105_F_acknowledged) (lenOf pd11 rfl) at_103 rfl (Nat.le_of_ble_eq_true rfl) (Nat.le_of_ble_eq_true rfl) (Nat.le_of_ble_eq_true rfl) (Nat.le_of_ble_eq_true rfl) rfl (pc' := 106) rfl ?_
          rintro v106 h106 ⟨rfl, rfl⟩
          show Go _ _ _ _ _ _ _ _ _ _ _ h105 6 20 (mkF m 106 #[.val (.long pa), .second, .val (.long pb), .second, .val (.long pc_), .second, .val (.long pd_), .second, .val (.long now), .second, .val (.int mode), .val (.long hh), .second, .val (.long ss), .second, .val (.long s2), .second, .val (.long (hh + ss)), .second, .val (.long q), .second, .val (.ref b104), .unset, .unset, .unset, .unset] [(.int (if hh = (0 : Int64) then 1 else 0))]) _
          refine Jvm.OwnWp.istore K at_106 (Ls' := #[.val (.long pa), .second, .val (.long pb), .second, .val (.long pc_), .second, .val (.long pd_), .second, .val (.long now), .second, .val (.int mode), .val (.long hh), .second, .val (.long ss), .second, .val (.long s2), .second, .val (.long (hh + ss)), .second, .val (.long q), .second, .val (.ref b104), .val (.int (if hh = (0 : Int64) then 1 else 0)), .unset, .unset, .unset]) rfl (pc' := 108) rfl ?_
          refine Jvm.OwnWp.aload K at_108 rfl rfl (pc' := 110) rfl ?_
          refine Jvm.OwnWp.lload K at_110 rfl (pc' := 112) rfl ?_
          refine Jvm.OwnWp.lload K at_112 rfl (pc' := 114) rfl ?_
          refine callVirt K (y := (⟨"com/example/adaptive_mirror/adaptivemirror/net/InFlight", "written", "(JJ)J"⟩ : MethodName)) (b := b104) (argsL := [(.long ss), (.long now)]) (S := []) (wd85 hw) (wd86 hw) (wd88 hw) (wd87 hw) (wd4 hw) (wd89 hw) (by decide) Q105_E_f (c_wri l Z a0 hw [] b104 fr fe fu hh ss now h105 n0 (Nat.le_trans Z0 P105.1) Q105_E_f Q105_F_frames Q105_F_flushes Q105_F_roundTrip Q105_F_written Q105_F_flushed Q105_F_acknowledged Q105_F_carried Q105_F_carriedAt Q105_rX Q105_rE Q105_rFe Q105_rFh Q105_rFt Q105_rV N105_fr_f N105_fe_f N105_fe_fr ge_b104 ge_fr ge_fe) (lenOf pd8 rfl) at_114 rfl (Nat.le_of_ble_eq_true rfl) (Nat.le_of_ble_eq_true rfl) (Nat.le_of_ble_eq_true rfl) (Nat.le_of_ble_eq_true rfl) rfl (pc' := 117) rfl ?_
          rintro v107 h107 ⟨rfl, K107, y107, L107_y, Q107_E_f, Q107_F_frames, Q107_F_flushes, Q107_F_roundTrip, Q107_F_written, Q107_F_flushed, Q107_F_acknowledged, Q107_F_carried, Q107_F_carriedAt, Q107_rX, Q107_rE, Q107_rFe, Q107_rFh, Q107_rFt, Q107_rV, Q107_E_y, Q107_Y_end, Q107_Y_began, Q107_Y_acknowledgedThen, Q107_Y_limitThen⟩
          have ne_b104_y107 : b104 ≠ y107 := Nat.ne_of_lt (Nat.lt_of_lt_of_le (Exa.lt Q105_E_f) L107_y)
          have ne_fr_y107 : fr ≠ y107 := Nat.ne_of_lt (Nat.lt_of_lt_of_le (Exa.lt Q105_rE) L107_y)
          have ne_fu_y107 : fu ≠ y107 := Nat.ne_of_lt (Nat.lt_of_lt_of_le (Exa.lt Q105_uE) L107_y)
          have ne_xx_y107 : xx ≠ y107 := Nat.ne_of_lt (Nat.lt_of_lt_of_le (Exa.lt Q105_E_x) L107_y)
          have ne_fe_y107 : fe ≠ y107 := Nat.ne_of_lt (Nat.lt_of_lt_of_le (Q105_rV.lt) L107_y)
          have ne_ue_y107 : ue ≠ y107 := Nat.ne_of_lt (Nat.lt_of_lt_of_le (Q105_uV.lt) L107_y)
          have lt_y107 : h0.size ≤ y107 := Nat.le_trans P105.1 L107_y
          have ge_y107 : n0 ≤ y107 := Nat.le_trans Z0 lt_y107
          have F107_elements_fu := (Fld.keep Q105_uFe K107 (ninS N105_fu_f (ninS N105_fu_fr (ninS N105_fu_fe (nin0)))))
          have F107_head_fu := (Fld.keep Q105_uFh K107 (ninS N105_fu_f (ninS N105_fu_fr (ninS N105_fu_fe (nin0)))))
          have F107_tail_fu := (Fld.keep Q105_uFt K107 (ninS N105_fu_f (ninS N105_fu_fr (ninS N105_fu_fe (nin0)))))
          have F107_end_xx := (Fld.keep Q105_X_end K107 (ninS N105_x_f (ninS N105_x_fr (ninS N105_x_fe (nin0)))))
          have F107_at_xx := (Fld.keep Q105_X_at K107 (ninS N105_x_f (ninS N105_x_fr (ninS N105_x_fe (nin0)))))
          have X107_b104 := (Exa.keep Q105_E_f K107)
          have X107_fr := (Exa.keep Q105_rE K107)
          have X107_fe := (Exa.keep Q105_rX K107)
          have X107_fu := (Exa.keep Q105_uE K107)
          have X107_ue := (Exa.keep Q105_uX K107)
          have X107_xx := (Exa.keep Q105_E_x K107)
          have V107_ue := (Q105_uV.keep K107 (ninS N105_ue_f (ninS N105_ue_fr (ninS N105_ue_fe (nin0)))))
          have P107 := (P105.trans K107 (allS (Or.inr lt_b104) (allS (Or.inr lt_fr) (allS (Or.inr lt_fe) (all0)))))
          show Go _ _ _ _ _ _ _ _ _ _ _ h107 7 24 (mkF m 117 #[.val (.long pa), .second, .val (.long pb), .second, .val (.long pc_), .second, .val (.long pd_), .second, .val (.long now), .second, .val (.int mode), .val (.long hh), .second, .val (.long ss), .second, .val (.long s2), .second, .val (.long (hh + ss)), .second, .val (.long q), .second, .val (.ref b104), .val (.int (if hh = (0 : Int64) then 1 else 0)), .unset, .unset, .unset] [(.long hh)]) _
          refine Jvm.OwnWp.pop2L K at_117 (pc' := 118) rfl ?_
          refine Jvm.OwnWp.aload K at_118 rfl rfl (pc' := 120) rfl ?_
          refine callVirt K (y := (⟨"com/example/adaptive_mirror/adaptivemirror/net/InFlight", "isEmpty", "()Z"⟩ : MethodName)) (b := b104) (argsL := []) (S := []) (wd78 hw) (wd79 hw) (wd81 hw) (wd80 hw) (wd4 hw) (wd82 hw) (by decide) Q107_E_f (c_ife l Z a0 hw [] b104 (hh + ss) (0 : Int64) h107 n0 (Nat.le_trans Z0 P107.1) Q107_F_written Q107_F_acknowledged) (lenOf pd11 rfl) at_120 rfl (Nat.le_of_ble_eq_true rfl) (Nat.le_of_ble_eq_true rfl) (Nat.le_of_ble_eq_true rfl) (Nat.le_of_ble_eq_true rfl) rfl (pc' := 123) rfl ?_
          rintro v108 h108 ⟨rfl, rfl⟩
          show Go _ _ _ _ _ _ _ _ _ _ _ h107 7 24 (mkF m 123 #[.val (.long pa), .second, .val (.long pb), .second, .val (.long pc_), .second, .val (.long pd_), .second, .val (.long now), .second, .val (.int mode), .val (.long hh), .second, .val (.long ss), .second, .val (.long s2), .second, .val (.long (hh + ss)), .second, .val (.long q), .second, .val (.ref b104), .val (.int (if hh = (0 : Int64) then 1 else 0)), .unset, .unset, .unset] [(.int (if (hh + ss) = (0 : Int64) then 1 else 0))]) _
          refine Jvm.OwnWp.istore K at_123 (Ls' := #[.val (.long pa), .second, .val (.long pb), .second, .val (.long pc_), .second, .val (.long pd_), .second, .val (.long now), .second, .val (.int mode), .val (.long hh), .second, .val (.long ss), .second, .val (.long s2), .second, .val (.long (hh + ss)), .second, .val (.long q), .second, .val (.ref b104), .val (.int (if hh = (0 : Int64) then 1 else 0)), .val (.int (if (hh + ss) = (0 : Int64) then 1 else 0)), .unset, .unset]) rfl (pc' := 125) rfl ?_
          refine Jvm.OwnWp.aload K at_125 rfl rfl (pc' := 127) rfl ?_
          refine Jvm.OwnWp.lload K at_127 rfl (pc' := 129) rfl ?_
          refine Jvm.OwnWp.lload K at_129 rfl (pc' := 131) rfl ?_
          refine callVirt K (y := (⟨"com/example/adaptive_mirror/adaptivemirror/net/InFlight", "acknowledged", "(JJ)I"⟩ : MethodName)) (b := b104) (argsL := [(.long q), (.long now)]) (S := []) (wd119 hw) (wd120 hw) (wd122 hw) (wd121 hw) (wd4 hw) (wd123 hw) (by decide) Q107_E_f (c_ack1 l Z a0 hw [] b104 fr fe fu ue xx y107 hh ss q now h107 n0 (Nat.le_trans Z0 P107.1) p1 p2 (own_grow m_ss.1 ea) Q107_E_f Q107_F_frames Q107_F_flushes Q107_F_roundTrip Q107_F_written Q107_F_flushed Q107_F_acknowledged Q107_F_carried Q107_F_carriedAt Q107_rX Q107_rE Q107_rFe Q107_rFh Q107_rFt Q107_rV X107_ue X107_fu F107_elements_fu F107_head_fu F107_tail_fu V107_ue X107_xx F107_end_xx F107_at_xx Q107_E_y Q107_Y_end Q107_Y_began Q107_Y_acknowledgedThen Q107_Y_limitThen N105_fr_f N105_fe_f N105_fu_f N105_ue_f N105_x_f (Ne.symm ne_b104_y107) N105_fe_fr N105_fu_fr N105_ue_fr N105_x_fr (Ne.symm ne_fr_y107) N105_fu_fe N105_ue_fe N105_x_fe (Ne.symm ne_fe_y107) N105_ue_fu N105_x_fu (Ne.symm ne_fu_y107) N105_x_ue (Ne.symm ne_ue_y107) (Ne.symm ne_xx_y107) ge_b104 ge_fr ge_fe ge_fu ge_ue) (lenOf pd15 rfl) at_131 rfl (Nat.le_of_ble_eq_true rfl) (Nat.le_of_ble_eq_true rfl) (Nat.le_of_ble_eq_true rfl) (Nat.le_of_ble_eq_true rfl) rfl (pc' := 134) rfl ?_
          rintro v109 h109 ⟨z109, rfl, K109, Q109_ak, Q109_fr, Q109_wr, ⟨cv109, Q109_cv⟩, AB109⟩
          have F109_end_xx := (Fld.keep F107_end_xx K109 (ninS N105_x_f (ninS N105_x_fr (ninS N105_x_fe (ninS N105_x_fu (ninS N105_x_ue (nin0)))))))
          have F109_at_xx := (Fld.keep F107_at_xx K109 (ninS N105_x_f (ninS N105_x_fr (ninS N105_x_fe (ninS N105_x_fu (ninS N105_x_ue (nin0)))))))
          have F109_end_y107 := (Fld.keep Q107_Y_end K109 (ninS (Ne.symm ne_b104_y107) (ninS (Ne.symm ne_fr_y107) (ninS (Ne.symm ne_fe_y107) (ninS (Ne.symm ne_fu_y107) (ninS (Ne.symm ne_ue_y107) (nin0)))))))
          have F109_began_y107 := (Fld.keep Q107_Y_began K109 (ninS (Ne.symm ne_b104_y107) (ninS (Ne.symm ne_fr_y107) (ninS (Ne.symm ne_fe_y107) (ninS (Ne.symm ne_fu_y107) (ninS (Ne.symm ne_ue_y107) (nin0)))))))
          have F109_acknowledgedThen_y107 := (Fld.keep Q107_Y_acknowledgedThen K109 (ninS (Ne.symm ne_b104_y107) (ninS (Ne.symm ne_fr_y107) (ninS (Ne.symm ne_fe_y107) (ninS (Ne.symm ne_fu_y107) (ninS (Ne.symm ne_ue_y107) (nin0)))))))
          have F109_limitThen_y107 := (Fld.keep Q107_Y_limitThen K109 (ninS (Ne.symm ne_b104_y107) (ninS (Ne.symm ne_fr_y107) (ninS (Ne.symm ne_fe_y107) (ninS (Ne.symm ne_fu_y107) (ninS (Ne.symm ne_ue_y107) (nin0)))))))
          have X109_b104 := (Exa.keep Q107_E_f K109)
          have X109_fr := (Exa.keep Q107_rE K109)
          have X109_fe := (Exa.keep Q107_rX K109)
          have X109_fu := (Exa.keep X107_fu K109)
          have X109_ue := (Exa.keep X107_ue K109)
          have X109_xx := (Exa.keep X107_xx K109)
          have X109_y107 := (Exa.keep Q107_E_y K109)
          have P109 := (P107.trans K109 (allS (Or.inr lt_b104) (allS (Or.inr lt_fr) (allS (Or.inr lt_fe) (allS (Or.inr lt_fu) (allS (Or.inr lt_ue) (all0)))))))
          show Go _ _ _ _ _ _ _ _ _ _ _ h109 7 24 (mkF m 134 #[.val (.long pa), .second, .val (.long pb), .second, .val (.long pc_), .second, .val (.long pd_), .second, .val (.long now), .second, .val (.int mode), .val (.long hh), .second, .val (.long ss), .second, .val (.long s2), .second, .val (.long (hh + ss)), .second, .val (.long q), .second, .val (.ref b104), .val (.int (if hh = (0 : Int64) then 1 else 0)), .val (.int (if (hh + ss) = (0 : Int64) then 1 else 0)), .unset, .unset] [(.int z109)]) _
          refine Jvm.OwnWp.pop K at_134 rfl (pc' := 135) rfl ?_
          refine Jvm.OwnWp.aload K at_135 rfl rfl (pc' := 137) rfl ?_
          refine callVirt K (y := (⟨"com/example/adaptive_mirror/adaptivemirror/net/InFlight", "isEmpty", "()Z"⟩ : MethodName)) (b := b104) (argsL := []) (S := []) (wd78 hw) (wd79 hw) (wd81 hw) (wd80 hw) (wd4 hw) (wd82 hw) (by decide) X109_b104 (c_ife l Z a0 hw [] b104 (hh + ss) q h109 n0 (Nat.le_trans Z0 P109.1) Q109_wr Q109_ak) (lenOf pd11 rfl) at_137 rfl (Nat.le_of_ble_eq_true rfl) (Nat.le_of_ble_eq_true rfl) (Nat.le_of_ble_eq_true rfl) (Nat.le_of_ble_eq_true rfl) rfl (pc' := 140) rfl ?_
          rintro v110 h110 ⟨rfl, rfl⟩
          show Go _ _ _ _ _ _ _ _ _ _ _ h109 7 24 (mkF m 140 #[.val (.long pa), .second, .val (.long pb), .second, .val (.long pc_), .second, .val (.long pd_), .second, .val (.long now), .second, .val (.int mode), .val (.long hh), .second, .val (.long ss), .second, .val (.long s2), .second, .val (.long (hh + ss)), .second, .val (.long q), .second, .val (.ref b104), .val (.int (if hh = (0 : Int64) then 1 else 0)), .val (.int (if (hh + ss) = (0 : Int64) then 1 else 0)), .unset, .unset] [(.int (if (hh + ss) = q then 1 else 0))]) _
          refine Jvm.OwnWp.istore K at_140 (Ls' := #[.val (.long pa), .second, .val (.long pb), .second, .val (.long pc_), .second, .val (.long pd_), .second, .val (.long now), .second, .val (.int mode), .val (.long hh), .second, .val (.long ss), .second, .val (.long s2), .second, .val (.long (hh + ss)), .second, .val (.long q), .second, .val (.ref b104), .val (.int (if hh = (0 : Int64) then 1 else 0)), .val (.int (if (hh + ss) = (0 : Int64) then 1 else 0)), .val (.int (if (hh + ss) = q then 1 else 0)), .unset]) rfl (pc' := 142) rfl ?_
          refine Jvm.OwnWp.aload K at_142 rfl rfl (pc' := 144) rfl ?_
          refine Jvm.OwnWp.lload K at_144 rfl (pc' := 146) rfl ?_
          refine Jvm.OwnWp.lload K at_146 rfl (pc' := 148) rfl ?_
          refine callVirt K (y := (⟨"com/example/adaptive_mirror/adaptivemirror/net/InFlight", "written", "(JJ)J"⟩ : MethodName)) (b := b104) (argsL := [(.long s2), (.long now)]) (S := []) (wd85 hw) (wd86 hw) (wd88 hw) (wd87 hw) (wd4 hw) (wd89 hw) (by decide) X109_b104 (c_wri2 l Z a0 hw [] b104 fr fe y107 mr (hh + ss) q cv109 s2 now h109 n0 (Nat.le_trans Z0 P109.1) M X109_b104 Q109_fr Q109_wr Q109_ak Q109_cv AB109 X109_y107 N105_fr_f N105_fe_f (Ne.symm ne_b104_y107) N105_fe_fr (Ne.symm ne_fr_y107) (Ne.symm ne_fe_y107) ge_b104 ge_fr ge_fe) (lenOf pd8 rfl) at_148 rfl (Nat.le_of_ble_eq_true rfl) (Nat.le_of_ble_eq_true rfl) (Nat.le_of_ble_eq_true rfl) (Nat.le_of_ble_eq_true rfl) rfl (pc' := 151) rfl ?_
          rintro v111 h111 ⟨rfl, K111, Q111_wr, Q111_ak⟩
          have F111_end_xx := (Fld.keep F109_end_xx K111 (ninS N105_x_f (ninS N105_x_fr (ninS N105_x_fe (nin0)))))
          have F111_at_xx := (Fld.keep F109_at_xx K111 (ninS N105_x_f (ninS N105_x_fr (ninS N105_x_fe (nin0)))))
          have F111_end_y107 := (Fld.keep F109_end_y107 K111 (ninS (Ne.symm ne_b104_y107) (ninS (Ne.symm ne_fr_y107) (ninS (Ne.symm ne_fe_y107) (nin0)))))
          have F111_began_y107 := (Fld.keep F109_began_y107 K111 (ninS (Ne.symm ne_b104_y107) (ninS (Ne.symm ne_fr_y107) (ninS (Ne.symm ne_fe_y107) (nin0)))))
          have F111_acknowledgedThen_y107 := (Fld.keep F109_acknowledgedThen_y107 K111 (ninS (Ne.symm ne_b104_y107) (ninS (Ne.symm ne_fr_y107) (ninS (Ne.symm ne_fe_y107) (nin0)))))
          have F111_limitThen_y107 := (Fld.keep F109_limitThen_y107 K111 (ninS (Ne.symm ne_b104_y107) (ninS (Ne.symm ne_fr_y107) (ninS (Ne.symm ne_fe_y107) (nin0)))))
          have X111_b104 := (Exa.keep X109_b104 K111)
          have X111_fr := (Exa.keep X109_fr K111)
          have X111_fe := (Exa.keep X109_fe K111)
          have X111_fu := (Exa.keep X109_fu K111)
          have X111_ue := (Exa.keep X109_ue K111)
          have X111_xx := (Exa.keep X109_xx K111)
          have X111_y107 := (Exa.keep X109_y107 K111)
          have P111 := (P109.trans K111 (allS (Or.inr lt_b104) (allS (Or.inr lt_fr) (allS (Or.inr lt_fe) (all0)))))
          show Go _ _ _ _ _ _ _ _ _ _ _ h111 9 34 (mkF m 151 #[.val (.long pa), .second, .val (.long pb), .second, .val (.long pc_), .second, .val (.long pd_), .second, .val (.long now), .second, .val (.int mode), .val (.long hh), .second, .val (.long ss), .second, .val (.long s2), .second, .val (.long (hh + ss)), .second, .val (.long q), .second, .val (.ref b104), .val (.int (if hh = (0 : Int64) then 1 else 0)), .val (.int (if (hh + ss) = (0 : Int64) then 1 else 0)), .val (.int (if (hh + ss) = q then 1 else 0)), .unset] [(.long (hh + ss))]) _
          refine Jvm.OwnWp.pop2L K at_151 (pc' := 152) rfl ?_
          refine Jvm.OwnWp.aload K at_152 rfl rfl (pc' := 154) rfl ?_
          refine callVirt K (y := (⟨"com/example/adaptive_mirror/adaptivemirror/net/InFlight", "isEmpty", "()Z"⟩ : MethodName)) (b := b104) (argsL := []) (S := []) (wd78 hw) (wd79 hw) (wd81 hw) (wd80 hw) (wd4 hw) (wd82 hw) (by decide) X111_b104 (c_ife l Z a0 hw [] b104 ((hh + ss) + s2) q h111 n0 (Nat.le_trans Z0 P111.1) Q111_wr Q111_ak) (lenOf pd11 rfl) at_154 rfl (Nat.le_of_ble_eq_true rfl) (Nat.le_of_ble_eq_true rfl) (Nat.le_of_ble_eq_true rfl) (Nat.le_of_ble_eq_true rfl) rfl (pc' := 157) rfl ?_
          rintro v112 h112 ⟨rfl, rfl⟩
          show Go _ _ _ _ _ _ _ _ _ _ _ h111 9 34 (mkF m 157 #[.val (.long pa), .second, .val (.long pb), .second, .val (.long pc_), .second, .val (.long pd_), .second, .val (.long now), .second, .val (.int mode), .val (.long hh), .second, .val (.long ss), .second, .val (.long s2), .second, .val (.long (hh + ss)), .second, .val (.long q), .second, .val (.ref b104), .val (.int (if hh = (0 : Int64) then 1 else 0)), .val (.int (if (hh + ss) = (0 : Int64) then 1 else 0)), .val (.int (if (hh + ss) = q then 1 else 0)), .unset] [(.int (if ((hh + ss) + s2) = q then 1 else 0))]) _
          refine Jvm.OwnWp.istore K at_157 (Ls' := #[.val (.long pa), .second, .val (.long pb), .second, .val (.long pc_), .second, .val (.long pd_), .second, .val (.long now), .second, .val (.int mode), .val (.long hh), .second, .val (.long ss), .second, .val (.long s2), .second, .val (.long (hh + ss)), .second, .val (.long q), .second, .val (.ref b104), .val (.int (if hh = (0 : Int64) then 1 else 0)), .val (.int (if (hh + ss) = (0 : Int64) then 1 else 0)), .val (.int (if (hh + ss) = q then 1 else 0)), .val (.int (if ((hh + ss) + s2) = q then 1 else 0))]) rfl (pc' := 159) rfl ?_
          refine Jvm.OwnWp.iload K at_159 rfl (pc' := 161) rfl ?_
          refine Jvm.OwnWp.lload K at_161 rfl (pc' := 163) rfl ?_
          refine Jvm.OwnWp.lconst K (0 : Int64) at_163 (by decide) (pc' := 164) rfl ?_
          refine Jvm.OwnWp.lcmp K at_164 (pc' := 165) rfl ?_
          by_cases k1 : hh = (0 : Int64)
          · refine ifN K at_165 (XT.ll_ne_f k1) (pc' := 168) rfl ?_
            rw [if_pos k1]
            show Go _ _ _ _ _ _ _ _ _ _ _ h111 9 34 (mkF m 168 #[.val (.long pa), .second, .val (.long pb), .second, .val (.long pc_), .second, .val (.long pd_), .second, .val (.long now), .second, .val (.int mode), .val (.long hh), .second, .val (.long ss), .second, .val (.long s2), .second, .val (.long (hh + ss)), .second, .val (.long q), .second, .val (.ref b104), .val (.int (1 : Int32)), .val (.int (if (hh + ss) = (0 : Int64) then 1 else 0)), .val (.int (if (hh + ss) = q then 1 else 0)), .val (.int (if ((hh + ss) + s2) = q then 1 else 0))] [(.int (1 : Int32))]) _
            refine Jvm.OwnWp.iconst K (1 : Int32) at_168 (by decide) (pc' := 169) rfl ?_
            refine goto' K at_169 (pc' := 173) (by decide) (by decide) ?_
            refine icN K at_173 (by decide) (pc' := 176) rfl ?_
            refine Jvm.OwnWp.iload K at_176 rfl (pc' := 178) rfl ?_
            refine Jvm.OwnWp.lload K at_178 rfl (pc' := 180) rfl ?_
            refine Jvm.OwnWp.lconst K (0 : Int64) at_180 (by decide) (pc' := 181) rfl ?_
            refine Jvm.OwnWp.lcmp K at_181 (pc' := 182) rfl ?_
            by_cases k2 : (hh + ss) = (0 : Int64)
            · refine ifN K at_182 (XT.ll_ne_f k2) (pc' := 185) rfl ?_
              rw [if_pos k2]
              show Go _ _ _ _ _ _ _ _ _ _ _ h111 9 34 (mkF m 185 #[.val (.long pa), .second, .val (.long pb), .second, .val (.long pc_), .second, .val (.long pd_), .second, .val (.long now), .second, .val (.int mode), .val (.long hh), .second, .val (.long ss), .second, .val (.long s2), .second, .val (.long (hh + ss)), .second, .val (.long q), .second, .val (.ref b104), .val (.int (1 : Int32)), .val (.int (1 : Int32)), .val (.int (if (hh + ss) = q then 1 else 0)), .val (.int (if ((hh + ss) + s2) = q then 1 else 0))] [(.int (1 : Int32))]) _
              refine Jvm.OwnWp.iconst K (1 : Int32) at_185 (by decide) (pc' := 186) rfl ?_
              refine goto' K at_186 (pc' := 190) (by decide) (by decide) ?_
              refine icN K at_190 (by decide) (pc' := 193) rfl ?_
              refine Jvm.OwnWp.iload K at_193 rfl (pc' := 195) rfl ?_
              refine Jvm.OwnWp.lload K at_195 rfl (pc' := 197) rfl ?_
              refine Jvm.OwnWp.lload K at_197 rfl (pc' := 199) rfl ?_
              refine Jvm.OwnWp.lcmp K at_199 (pc' := 200) rfl ?_
              by_cases k3 : q = (hh + ss)
              · refine ifN K at_200 (XT.ll_ne_f k3) (pc' := 203) rfl ?_
                rw [if_pos k3.symm]
                show Go _ _ _ _ _ _ _ _ _ _ _ h111 9 34 (mkF m 203 #[.val (.long pa), .second, .val (.long pb), .second, .val (.long pc_), .second, .val (.long pd_), .second, .val (.long now), .second, .val (.int mode), .val (.long hh), .second, .val (.long ss), .second, .val (.long s2), .second, .val (.long (hh + ss)), .second, .val (.long q), .second, .val (.ref b104), .val (.int (1 : Int32)), .val (.int (1 : Int32)), .val (.int (1 : Int32)), .val (.int (if ((hh + ss) + s2) = q then 1 else 0))] [(.int (1 : Int32))]) _
                refine Jvm.OwnWp.iconst K (1 : Int32) at_203 (by decide) (pc' := 204) rfl ?_
                refine goto' K at_204 (pc' := 208) (by decide) (by decide) ?_
                refine icN K at_208 (by decide) (pc' := 211) rfl ?_
                refine Jvm.OwnWp.iload K at_211 rfl (pc' := 213) rfl ?_
                refine Jvm.OwnWp.lload K at_213 rfl (pc' := 215) rfl ?_
                refine Jvm.OwnWp.lload K at_215 rfl (pc' := 217) rfl ?_
                refine Jvm.OwnWp.lload K at_217 rfl (pc' := 219) rfl ?_
                refine Jvm.OwnWp.ladd K at_219 (pc' := 220) rfl ?_
                refine Jvm.OwnWp.lcmp K at_220 (pc' := 221) rfl ?_
                by_cases k4 : q = ((hh + ss) + s2)
                · refine ifN K at_221 (XT.ll_ne_f k4) (pc' := 224) rfl ?_
                  rw [if_pos k4.symm]
                  show Go _ _ _ _ _ _ _ _ _ _ _ h111 9 34 (mkF m 224 #[.val (.long pa), .second, .val (.long pb), .second, .val (.long pc_), .second, .val (.long pd_), .second, .val (.long now), .second, .val (.int mode), .val (.long hh), .second, .val (.long ss), .second, .val (.long s2), .second, .val (.long (hh + ss)), .second, .val (.long q), .second, .val (.ref b104), .val (.int (1 : Int32)), .val (.int (1 : Int32)), .val (.int (1 : Int32)), .val (.int (1 : Int32))] [(.int (1 : Int32))]) _
                  refine Jvm.OwnWp.iconst K (1 : Int32) at_224 (by decide) (pc' := 225) rfl ?_
                  refine goto' K at_225 (pc' := 229) (by decide) (by decide) ?_
                  refine icN K at_229 (by decide) (pc' := 232) rfl ?_
                  refine Jvm.OwnWp.iconst K (1 : Int32) at_232 (by decide) (pc' := 233) rfl ?_
                  refine goto' K at_233 (pc' := 237) (by decide) (by decide) ?_
                  refine retB K (t := .boolean) rfl (by simp) at_237 (Nat.le_of_ble_eq_true rfl) (Nat.le_of_ble_eq_true rfl) ?_
                  rfl
                · refine ifY K at_221 (XT.ll_ne_t k4) (pc' := 228) (by decide) (by decide) ?_
                  rw [if_neg (fun e => k4 e.symm)]
                  show Go _ _ _ _ _ _ _ _ _ _ _ h111 9 34 (mkF m 228 #[.val (.long pa), .second, .val (.long pb), .second, .val (.long pc_), .second, .val (.long pd_), .second, .val (.long now), .second, .val (.int mode), .val (.long hh), .second, .val (.long ss), .second, .val (.long s2), .second, .val (.long (hh + ss)), .second, .val (.long q), .second, .val (.ref b104), .val (.int (1 : Int32)), .val (.int (1 : Int32)), .val (.int (1 : Int32)), .val (.int (0 : Int32))] [(.int (0 : Int32))]) _
                  refine Jvm.OwnWp.iconst K (0 : Int32) at_228 (by decide) (pc' := 229) rfl ?_
                  refine icN K at_229 (by decide) (pc' := 232) rfl ?_
                  refine Jvm.OwnWp.iconst K (1 : Int32) at_232 (by decide) (pc' := 233) rfl ?_
                  refine goto' K at_233 (pc' := 237) (by decide) (by decide) ?_
                  refine retB K (t := .boolean) rfl (by simp) at_237 (Nat.le_of_ble_eq_true rfl) (Nat.le_of_ble_eq_true rfl) ?_
                  rfl
              · refine ifY K at_200 (XT.ll_ne_t k3) (pc' := 207) (by decide) (by decide) ?_
                rw [if_neg (fun e => k3 e.symm)]
                show Go _ _ _ _ _ _ _ _ _ _ _ h111 9 34 (mkF m 207 #[.val (.long pa), .second, .val (.long pb), .second, .val (.long pc_), .second, .val (.long pd_), .second, .val (.long now), .second, .val (.int mode), .val (.long hh), .second, .val (.long ss), .second, .val (.long s2), .second, .val (.long (hh + ss)), .second, .val (.long q), .second, .val (.ref b104), .val (.int (1 : Int32)), .val (.int (1 : Int32)), .val (.int (0 : Int32)), .val (.int (if ((hh + ss) + s2) = q then 1 else 0))] [(.int (0 : Int32))]) _
                refine Jvm.OwnWp.iconst K (0 : Int32) at_207 (by decide) (pc' := 208) rfl ?_
                refine icN K at_208 (by decide) (pc' := 211) rfl ?_
                refine Jvm.OwnWp.iload K at_211 rfl (pc' := 213) rfl ?_
                refine Jvm.OwnWp.lload K at_213 rfl (pc' := 215) rfl ?_
                refine Jvm.OwnWp.lload K at_215 rfl (pc' := 217) rfl ?_
                refine Jvm.OwnWp.lload K at_217 rfl (pc' := 219) rfl ?_
                refine Jvm.OwnWp.ladd K at_219 (pc' := 220) rfl ?_
                refine Jvm.OwnWp.lcmp K at_220 (pc' := 221) rfl ?_
                by_cases k4 : q = ((hh + ss) + s2)
                · refine ifN K at_221 (XT.ll_ne_f k4) (pc' := 224) rfl ?_
                  rw [if_pos k4.symm]
                  show Go _ _ _ _ _ _ _ _ _ _ _ h111 9 34 (mkF m 224 #[.val (.long pa), .second, .val (.long pb), .second, .val (.long pc_), .second, .val (.long pd_), .second, .val (.long now), .second, .val (.int mode), .val (.long hh), .second, .val (.long ss), .second, .val (.long s2), .second, .val (.long (hh + ss)), .second, .val (.long q), .second, .val (.ref b104), .val (.int (1 : Int32)), .val (.int (1 : Int32)), .val (.int (0 : Int32)), .val (.int (1 : Int32))] [(.int (1 : Int32))]) _
                  refine Jvm.OwnWp.iconst K (1 : Int32) at_224 (by decide) (pc' := 225) rfl ?_
                  refine goto' K at_225 (pc' := 229) (by decide) (by decide) ?_
                  refine icN K at_229 (by decide) (pc' := 232) rfl ?_
                  refine Jvm.OwnWp.iconst K (1 : Int32) at_232 (by decide) (pc' := 233) rfl ?_
                  refine goto' K at_233 (pc' := 237) (by decide) (by decide) ?_
                  refine retB K (t := .boolean) rfl (by simp) at_237 (Nat.le_of_ble_eq_true rfl) (Nat.le_of_ble_eq_true rfl) ?_
                  rfl
                · refine ifY K at_221 (XT.ll_ne_t k4) (pc' := 228) (by decide) (by decide) ?_
                  rw [if_neg (fun e => k4 e.symm)]
                  show Go _ _ _ _ _ _ _ _ _ _ _ h111 9 34 (mkF m 228 #[.val (.long pa), .second, .val (.long pb), .second, .val (.long pc_), .second, .val (.long pd_), .second, .val (.long now), .second, .val (.int mode), .val (.long hh), .second, .val (.long ss), .second, .val (.long s2), .second, .val (.long (hh + ss)), .second, .val (.long q), .second, .val (.ref b104), .val (.int (1 : Int32)), .val (.int (1 : Int32)), .val (.int (0 : Int32)), .val (.int (0 : Int32))] [(.int (0 : Int32))]) _
                  refine Jvm.OwnWp.iconst K (0 : Int32) at_228 (by decide) (pc' := 229) rfl ?_
                  refine icN K at_229 (by decide) (pc' := 232) rfl ?_
                  refine Jvm.OwnWp.iconst K (1 : Int32) at_232 (by decide) (pc' := 233) rfl ?_
                  refine goto' K at_233 (pc' := 237) (by decide) (by decide) ?_
                  refine retB K (t := .boolean) rfl (by simp) at_237 (Nat.le_of_ble_eq_true rfl) (Nat.le_of_ble_eq_true rfl) ?_
                  rfl
            · refine ifY K at_182 (XT.ll_ne_t k2) (pc' := 189) (by decide) (by decide) ?_
              rw [if_neg k2]
              show Go _ _ _ _ _ _ _ _ _ _ _ h111 9 34 (mkF m 189 #[.val (.long pa), .second, .val (.long pb), .second, .val (.long pc_), .second, .val (.long pd_), .second, .val (.long now), .second, .val (.int mode), .val (.long hh), .second, .val (.long ss), .second, .val (.long s2), .second, .val (.long (hh + ss)), .second, .val (.long q), .second, .val (.ref b104), .val (.int (1 : Int32)), .val (.int (0 : Int32)), .val (.int (if (hh + ss) = q then 1 else 0)), .val (.int (if ((hh + ss) + s2) = q then 1 else 0))] [(.int (0 : Int32))]) _
              refine Jvm.OwnWp.iconst K (0 : Int32) at_189 (by decide) (pc' := 190) rfl ?_
              refine icN K at_190 (by decide) (pc' := 193) rfl ?_
              refine Jvm.OwnWp.iload K at_193 rfl (pc' := 195) rfl ?_
              refine Jvm.OwnWp.lload K at_195 rfl (pc' := 197) rfl ?_
              refine Jvm.OwnWp.lload K at_197 rfl (pc' := 199) rfl ?_
              refine Jvm.OwnWp.lcmp K at_199 (pc' := 200) rfl ?_
              by_cases k3 : q = (hh + ss)
              · refine ifN K at_200 (XT.ll_ne_f k3) (pc' := 203) rfl ?_
                rw [if_pos k3.symm]
                show Go _ _ _ _ _ _ _ _ _ _ _ h111 9 34 (mkF m 203 #[.val (.long pa), .second, .val (.long pb), .second, .val (.long pc_), .second, .val (.long pd_), .second, .val (.long now), .second, .val (.int mode), .val (.long hh), .second, .val (.long ss), .second, .val (.long s2), .second, .val (.long (hh + ss)), .second, .val (.long q), .second, .val (.ref b104), .val (.int (1 : Int32)), .val (.int (0 : Int32)), .val (.int (1 : Int32)), .val (.int (if ((hh + ss) + s2) = q then 1 else 0))] [(.int (1 : Int32))]) _
                refine Jvm.OwnWp.iconst K (1 : Int32) at_203 (by decide) (pc' := 204) rfl ?_
                refine goto' K at_204 (pc' := 208) (by decide) (by decide) ?_
                refine icN K at_208 (by decide) (pc' := 211) rfl ?_
                refine Jvm.OwnWp.iload K at_211 rfl (pc' := 213) rfl ?_
                refine Jvm.OwnWp.lload K at_213 rfl (pc' := 215) rfl ?_
                refine Jvm.OwnWp.lload K at_215 rfl (pc' := 217) rfl ?_
                refine Jvm.OwnWp.lload K at_217 rfl (pc' := 219) rfl ?_
                refine Jvm.OwnWp.ladd K at_219 (pc' := 220) rfl ?_
                refine Jvm.OwnWp.lcmp K at_220 (pc' := 221) rfl ?_
                by_cases k4 : q = ((hh + ss) + s2)
                · refine ifN K at_221 (XT.ll_ne_f k4) (pc' := 224) rfl ?_
                  rw [if_pos k4.symm]
                  show Go _ _ _ _ _ _ _ _ _ _ _ h111 9 34 (mkF m 224 #[.val (.long pa), .second, .val (.long pb), .second, .val (.long pc_), .second, .val (.long pd_), .second, .val (.long now), .second, .val (.int mode), .val (.long hh), .second, .val (.long ss), .second, .val (.long s2), .second, .val (.long (hh + ss)), .second, .val (.long q), .second, .val (.ref b104), .val (.int (1 : Int32)), .val (.int (0 : Int32)), .val (.int (1 : Int32)), .val (.int (1 : Int32))] [(.int (1 : Int32))]) _
                  refine Jvm.OwnWp.iconst K (1 : Int32) at_224 (by decide) (pc' := 225) rfl ?_
                  refine goto' K at_225 (pc' := 229) (by decide) (by decide) ?_
                  refine icN K at_229 (by decide) (pc' := 232) rfl ?_
                  refine Jvm.OwnWp.iconst K (1 : Int32) at_232 (by decide) (pc' := 233) rfl ?_
                  refine goto' K at_233 (pc' := 237) (by decide) (by decide) ?_
                  refine retB K (t := .boolean) rfl (by simp) at_237 (Nat.le_of_ble_eq_true rfl) (Nat.le_of_ble_eq_true rfl) ?_
                  rfl
                · refine ifY K at_221 (XT.ll_ne_t k4) (pc' := 228) (by decide) (by decide) ?_
                  rw [if_neg (fun e => k4 e.symm)]
                  show Go _ _ _ _ _ _ _ _ _ _ _ h111 9 34 (mkF m 228 #[.val (.long pa), .second, .val (.long pb), .second, .val (.long pc_), .second, .val (.long pd_), .second, .val (.long now), .second, .val (.int mode), .val (.long hh), .second, .val (.long ss), .second, .val (.long s2), .second, .val (.long (hh + ss)), .second, .val (.long q), .second, .val (.ref b104), .val (.int (1 : Int32)), .val (.int (0 : Int32)), .val (.int (1 : Int32)), .val (.int (0 : Int32))] [(.int (0 : Int32))]) _
                  refine Jvm.OwnWp.iconst K (0 : Int32) at_228 (by decide) (pc' := 229) rfl ?_
                  refine icN K at_229 (by decide) (pc' := 232) rfl ?_
                  refine Jvm.OwnWp.iconst K (1 : Int32) at_232 (by decide) (pc' := 233) rfl ?_
                  refine goto' K at_233 (pc' := 237) (by decide) (by decide) ?_
                  refine retB K (t := .boolean) rfl (by simp) at_237 (Nat.le_of_ble_eq_true rfl) (Nat.le_of_ble_eq_true rfl) ?_
                  rfl
              · refine ifY K at_200 (XT.ll_ne_t k3) (pc' := 207) (by decide) (by decide) ?_
                rw [if_neg (fun e => k3 e.symm)]
                show Go _ _ _ _ _ _ _ _ _ _ _ h111 9 34 (mkF m 207 #[.val (.long pa), .second, .val (.long pb), .second, .val (.long pc_), .second, .val (.long pd_), .second, .val (.long now), .second, .val (.int mode), .val (.long hh), .second, .val (.long ss), .second, .val (.long s2), .second, .val (.long (hh + ss)), .second, .val (.long q), .second, .val (.ref b104), .val (.int (1 : Int32)), .val (.int (0 : Int32)), .val (.int (0 : Int32)), .val (.int (if ((hh + ss) + s2) = q then 1 else 0))] [(.int (0 : Int32))]) _
                refine Jvm.OwnWp.iconst K (0 : Int32) at_207 (by decide) (pc' := 208) rfl ?_
                refine icN K at_208 (by decide) (pc' := 211) rfl ?_
                refine Jvm.OwnWp.iload K at_211 rfl (pc' := 213) rfl ?_
                refine Jvm.OwnWp.lload K at_213 rfl (pc' := 215) rfl ?_
                refine Jvm.OwnWp.lload K at_215 rfl (pc' := 217) rfl ?_
                refine Jvm.OwnWp.lload K at_217 rfl (pc' := 219) rfl ?_
                refine Jvm.OwnWp.ladd K at_219 (pc' := 220) rfl ?_
                refine Jvm.OwnWp.lcmp K at_220 (pc' := 221) rfl ?_
                by_cases k4 : q = ((hh + ss) + s2)
                · refine ifN K at_221 (XT.ll_ne_f k4) (pc' := 224) rfl ?_
                  rw [if_pos k4.symm]
                  show Go _ _ _ _ _ _ _ _ _ _ _ h111 9 34 (mkF m 224 #[.val (.long pa), .second, .val (.long pb), .second, .val (.long pc_), .second, .val (.long pd_), .second, .val (.long now), .second, .val (.int mode), .val (.long hh), .second, .val (.long ss), .second, .val (.long s2), .second, .val (.long (hh + ss)), .second, .val (.long q), .second, .val (.ref b104), .val (.int (1 : Int32)), .val (.int (0 : Int32)), .val (.int (0 : Int32)), .val (.int (1 : Int32))] [(.int (1 : Int32))]) _
                  refine Jvm.OwnWp.iconst K (1 : Int32) at_224 (by decide) (pc' := 225) rfl ?_
                  refine goto' K at_225 (pc' := 229) (by decide) (by decide) ?_
                  refine icN K at_229 (by decide) (pc' := 232) rfl ?_
                  refine Jvm.OwnWp.iconst K (1 : Int32) at_232 (by decide) (pc' := 233) rfl ?_
                  refine goto' K at_233 (pc' := 237) (by decide) (by decide) ?_
                  refine retB K (t := .boolean) rfl (by simp) at_237 (Nat.le_of_ble_eq_true rfl) (Nat.le_of_ble_eq_true rfl) ?_
                  rfl
                · refine ifY K at_221 (XT.ll_ne_t k4) (pc' := 228) (by decide) (by decide) ?_
                  rw [if_neg (fun e => k4 e.symm)]
                  show Go _ _ _ _ _ _ _ _ _ _ _ h111 9 34 (mkF m 228 #[.val (.long pa), .second, .val (.long pb), .second, .val (.long pc_), .second, .val (.long pd_), .second, .val (.long now), .second, .val (.int mode), .val (.long hh), .second, .val (.long ss), .second, .val (.long s2), .second, .val (.long (hh + ss)), .second, .val (.long q), .second, .val (.ref b104), .val (.int (1 : Int32)), .val (.int (0 : Int32)), .val (.int (0 : Int32)), .val (.int (0 : Int32))] [(.int (0 : Int32))]) _
                  refine Jvm.OwnWp.iconst K (0 : Int32) at_228 (by decide) (pc' := 229) rfl ?_
                  refine icN K at_229 (by decide) (pc' := 232) rfl ?_
                  refine Jvm.OwnWp.iconst K (1 : Int32) at_232 (by decide) (pc' := 233) rfl ?_
                  refine goto' K at_233 (pc' := 237) (by decide) (by decide) ?_
                  refine retB K (t := .boolean) rfl (by simp) at_237 (Nat.le_of_ble_eq_true rfl) (Nat.le_of_ble_eq_true rfl) ?_
                  rfl
          · refine ifY K at_165 (XT.ll_ne_t k1) (pc' := 172) (by decide) (by decide) ?_
            rw [if_neg k1]
            show Go _ _ _ _ _ _ _ _ _ _ _ h111 9 34 (mkF m 172 #[.val (.long pa), .second, .val (.long pb), .second, .val (.long pc_), .second, .val (.long pd_), .second, .val (.long now), .second, .val (.int mode), .val (.long hh), .second, .val (.long ss), .second, .val (.long s2), .second, .val (.long (hh + ss)), .second, .val (.long q), .second, .val (.ref b104), .val (.int (0 : Int32)), .val (.int (if (hh + ss) = (0 : Int64) then 1 else 0)), .val (.int (if (hh + ss) = q then 1 else 0)), .val (.int (if ((hh + ss) + s2) = q then 1 else 0))] [(.int (0 : Int32))]) _
            refine Jvm.OwnWp.iconst K (0 : Int32) at_172 (by decide) (pc' := 173) rfl ?_
            refine icN K at_173 (by decide) (pc' := 176) rfl ?_
            refine Jvm.OwnWp.iload K at_176 rfl (pc' := 178) rfl ?_
            refine Jvm.OwnWp.lload K at_178 rfl (pc' := 180) rfl ?_
            refine Jvm.OwnWp.lconst K (0 : Int64) at_180 (by decide) (pc' := 181) rfl ?_
            refine Jvm.OwnWp.lcmp K at_181 (pc' := 182) rfl ?_
            by_cases k2 : (hh + ss) = (0 : Int64)
            · refine ifN K at_182 (XT.ll_ne_f k2) (pc' := 185) rfl ?_
              rw [if_pos k2]
              show Go _ _ _ _ _ _ _ _ _ _ _ h111 9 34 (mkF m 185 #[.val (.long pa), .second, .val (.long pb), .second, .val (.long pc_), .second, .val (.long pd_), .second, .val (.long now), .second, .val (.int mode), .val (.long hh), .second, .val (.long ss), .second, .val (.long s2), .second, .val (.long (hh + ss)), .second, .val (.long q), .second, .val (.ref b104), .val (.int (0 : Int32)), .val (.int (1 : Int32)), .val (.int (if (hh + ss) = q then 1 else 0)), .val (.int (if ((hh + ss) + s2) = q then 1 else 0))] [(.int (1 : Int32))]) _
              refine Jvm.OwnWp.iconst K (1 : Int32) at_185 (by decide) (pc' := 186) rfl ?_
              refine goto' K at_186 (pc' := 190) (by decide) (by decide) ?_
              refine icN K at_190 (by decide) (pc' := 193) rfl ?_
              refine Jvm.OwnWp.iload K at_193 rfl (pc' := 195) rfl ?_
              refine Jvm.OwnWp.lload K at_195 rfl (pc' := 197) rfl ?_
              refine Jvm.OwnWp.lload K at_197 rfl (pc' := 199) rfl ?_
              refine Jvm.OwnWp.lcmp K at_199 (pc' := 200) rfl ?_
              by_cases k3 : q = (hh + ss)
              · refine ifN K at_200 (XT.ll_ne_f k3) (pc' := 203) rfl ?_
                rw [if_pos k3.symm]
                show Go _ _ _ _ _ _ _ _ _ _ _ h111 9 34 (mkF m 203 #[.val (.long pa), .second, .val (.long pb), .second, .val (.long pc_), .second, .val (.long pd_), .second, .val (.long now), .second, .val (.int mode), .val (.long hh), .second, .val (.long ss), .second, .val (.long s2), .second, .val (.long (hh + ss)), .second, .val (.long q), .second, .val (.ref b104), .val (.int (0 : Int32)), .val (.int (1 : Int32)), .val (.int (1 : Int32)), .val (.int (if ((hh + ss) + s2) = q then 1 else 0))] [(.int (1 : Int32))]) _
                refine Jvm.OwnWp.iconst K (1 : Int32) at_203 (by decide) (pc' := 204) rfl ?_
                refine goto' K at_204 (pc' := 208) (by decide) (by decide) ?_
                refine icN K at_208 (by decide) (pc' := 211) rfl ?_
                refine Jvm.OwnWp.iload K at_211 rfl (pc' := 213) rfl ?_
                refine Jvm.OwnWp.lload K at_213 rfl (pc' := 215) rfl ?_
                refine Jvm.OwnWp.lload K at_215 rfl (pc' := 217) rfl ?_
                refine Jvm.OwnWp.lload K at_217 rfl (pc' := 219) rfl ?_
                refine Jvm.OwnWp.ladd K at_219 (pc' := 220) rfl ?_
                refine Jvm.OwnWp.lcmp K at_220 (pc' := 221) rfl ?_
                by_cases k4 : q = ((hh + ss) + s2)
                · refine ifN K at_221 (XT.ll_ne_f k4) (pc' := 224) rfl ?_
                  rw [if_pos k4.symm]
                  show Go _ _ _ _ _ _ _ _ _ _ _ h111 9 34 (mkF m 224 #[.val (.long pa), .second, .val (.long pb), .second, .val (.long pc_), .second, .val (.long pd_), .second, .val (.long now), .second, .val (.int mode), .val (.long hh), .second, .val (.long ss), .second, .val (.long s2), .second, .val (.long (hh + ss)), .second, .val (.long q), .second, .val (.ref b104), .val (.int (0 : Int32)), .val (.int (1 : Int32)), .val (.int (1 : Int32)), .val (.int (1 : Int32))] [(.int (1 : Int32))]) _
                  refine Jvm.OwnWp.iconst K (1 : Int32) at_224 (by decide) (pc' := 225) rfl ?_
                  refine goto' K at_225 (pc' := 229) (by decide) (by decide) ?_
                  refine icN K at_229 (by decide) (pc' := 232) rfl ?_
                  refine Jvm.OwnWp.iconst K (1 : Int32) at_232 (by decide) (pc' := 233) rfl ?_
                  refine goto' K at_233 (pc' := 237) (by decide) (by decide) ?_
                  refine retB K (t := .boolean) rfl (by simp) at_237 (Nat.le_of_ble_eq_true rfl) (Nat.le_of_ble_eq_true rfl) ?_
                  rfl
                · refine ifY K at_221 (XT.ll_ne_t k4) (pc' := 228) (by decide) (by decide) ?_
                  rw [if_neg (fun e => k4 e.symm)]
                  show Go _ _ _ _ _ _ _ _ _ _ _ h111 9 34 (mkF m 228 #[.val (.long pa), .second, .val (.long pb), .second, .val (.long pc_), .second, .val (.long pd_), .second, .val (.long now), .second, .val (.int mode), .val (.long hh), .second, .val (.long ss), .second, .val (.long s2), .second, .val (.long (hh + ss)), .second, .val (.long q), .second, .val (.ref b104), .val (.int (0 : Int32)), .val (.int (1 : Int32)), .val (.int (1 : Int32)), .val (.int (0 : Int32))] [(.int (0 : Int32))]) _
                  refine Jvm.OwnWp.iconst K (0 : Int32) at_228 (by decide) (pc' := 229) rfl ?_
                  refine icN K at_229 (by decide) (pc' := 232) rfl ?_
                  refine Jvm.OwnWp.iconst K (1 : Int32) at_232 (by decide) (pc' := 233) rfl ?_
                  refine goto' K at_233 (pc' := 237) (by decide) (by decide) ?_
                  refine retB K (t := .boolean) rfl (by simp) at_237 (Nat.le_of_ble_eq_true rfl) (Nat.le_of_ble_eq_true rfl) ?_
                  rfl
              · refine ifY K at_200 (XT.ll_ne_t k3) (pc' := 207) (by decide) (by decide) ?_
                rw [if_neg (fun e => k3 e.symm)]
                show Go _ _ _ _ _ _ _ _ _ _ _ h111 9 34 (mkF m 207 #[.val (.long pa), .second, .val (.long pb), .second, .val (.long pc_), .second, .val (.long pd_), .second, .val (.long now), .second, .val (.int mode), .val (.long hh), .second, .val (.long ss), .second, .val (.long s2), .second, .val (.long (hh + ss)), .second, .val (.long q), .second, .val (.ref b104), .val (.int (0 : Int32)), .val (.int (1 : Int32)), .val (.int (0 : Int32)), .val (.int (if ((hh + ss) + s2) = q then 1 else 0))] [(.int (0 : Int32))]) _
                refine Jvm.OwnWp.iconst K (0 : Int32) at_207 (by decide) (pc' := 208) rfl ?_
                refine icN K at_208 (by decide) (pc' := 211) rfl ?_
                refine Jvm.OwnWp.iload K at_211 rfl (pc' := 213) rfl ?_
                refine Jvm.OwnWp.lload K at_213 rfl (pc' := 215) rfl ?_
                refine Jvm.OwnWp.lload K at_215 rfl (pc' := 217) rfl ?_
                refine Jvm.OwnWp.lload K at_217 rfl (pc' := 219) rfl ?_
                refine Jvm.OwnWp.ladd K at_219 (pc' := 220) rfl ?_
                refine Jvm.OwnWp.lcmp K at_220 (pc' := 221) rfl ?_
                by_cases k4 : q = ((hh + ss) + s2)
                · refine ifN K at_221 (XT.ll_ne_f k4) (pc' := 224) rfl ?_
                  rw [if_pos k4.symm]
                  show Go _ _ _ _ _ _ _ _ _ _ _ h111 9 34 (mkF m 224 #[.val (.long pa), .second, .val (.long pb), .second, .val (.long pc_), .second, .val (.long pd_), .second, .val (.long now), .second, .val (.int mode), .val (.long hh), .second, .val (.long ss), .second, .val (.long s2), .second, .val (.long (hh + ss)), .second, .val (.long q), .second, .val (.ref b104), .val (.int (0 : Int32)), .val (.int (1 : Int32)), .val (.int (0 : Int32)), .val (.int (1 : Int32))] [(.int (1 : Int32))]) _
                  refine Jvm.OwnWp.iconst K (1 : Int32) at_224 (by decide) (pc' := 225) rfl ?_
                  refine goto' K at_225 (pc' := 229) (by decide) (by decide) ?_
                  refine icN K at_229 (by decide) (pc' := 232) rfl ?_
                  refine Jvm.OwnWp.iconst K (1 : Int32) at_232 (by decide) (pc' := 233) rfl ?_
                  refine goto' K at_233 (pc' := 237) (by decide) (by decide) ?_
                  refine retB K (t := .boolean) rfl (by simp) at_237 (Nat.le_of_ble_eq_true rfl) (Nat.le_of_ble_eq_true rfl) ?_
                  rfl
                · refine ifY K at_221 (XT.ll_ne_t k4) (pc' := 228) (by decide) (by decide) ?_
                  rw [if_neg (fun e => k4 e.symm)]
                  show Go _ _ _ _ _ _ _ _ _ _ _ h111 9 34 (mkF m 228 #[.val (.long pa), .second, .val (.long pb), .second, .val (.long pc_), .second, .val (.long pd_), .second, .val (.long now), .second, .val (.int mode), .val (.long hh), .second, .val (.long ss), .second, .val (.long s2), .second, .val (.long (hh + ss)), .second, .val (.long q), .second, .val (.ref b104), .val (.int (0 : Int32)), .val (.int (1 : Int32)), .val (.int (0 : Int32)), .val (.int (0 : Int32))] [(.int (0 : Int32))]) _
                  refine Jvm.OwnWp.iconst K (0 : Int32) at_228 (by decide) (pc' := 229) rfl ?_
                  refine icN K at_229 (by decide) (pc' := 232) rfl ?_
                  refine Jvm.OwnWp.iconst K (1 : Int32) at_232 (by decide) (pc' := 233) rfl ?_
                  refine goto' K at_233 (pc' := 237) (by decide) (by decide) ?_
                  refine retB K (t := .boolean) rfl (by simp) at_237 (Nat.le_of_ble_eq_true rfl) (Nat.le_of_ble_eq_true rfl) ?_
                  rfl
            · refine ifY K at_182 (XT.ll_ne_t k2) (pc' := 189) (by decide) (by decide) ?_
              rw [if_neg k2]
              show Go _ _ _ _ _ _ _ _ _ _ _ h111 9 34 (mkF m 189 #[.val (.long pa), .second, .val (.long pb), .second, .val (.long pc_), .second, .val (.long pd_), .second, .val (.long now), .second, .val (.int mode), .val (.long hh), .second, .val (.long ss), .second, .val (.long s2), .second, .val (.long (hh + ss)), .second, .val (.long q), .second, .val (.ref b104), .val (.int (0 : Int32)), .val (.int (0 : Int32)), .val (.int (if (hh + ss) = q then 1 else 0)), .val (.int (if ((hh + ss) + s2) = q then 1 else 0))] [(.int (0 : Int32))]) _
              refine Jvm.OwnWp.iconst K (0 : Int32) at_189 (by decide) (pc' := 190) rfl ?_
              refine icN K at_190 (by decide) (pc' := 193) rfl ?_
              refine Jvm.OwnWp.iload K at_193 rfl (pc' := 195) rfl ?_
              refine Jvm.OwnWp.lload K at_195 rfl (pc' := 197) rfl ?_
              refine Jvm.OwnWp.lload K at_197 rfl (pc' := 199) rfl ?_
              refine Jvm.OwnWp.lcmp K at_199 (pc' := 200) rfl ?_
              by_cases k3 : q = (hh + ss)
              · refine ifN K at_200 (XT.ll_ne_f k3) (pc' := 203) rfl ?_
                rw [if_pos k3.symm]
                show Go _ _ _ _ _ _ _ _ _ _ _ h111 9 34 (mkF m 203 #[.val (.long pa), .second, .val (.long pb), .second, .val (.long pc_), .second, .val (.long pd_), .second, .val (.long now), .second, .val (.int mode), .val (.long hh), .second, .val (.long ss), .second, .val (.long s2), .second, .val (.long (hh + ss)), .second, .val (.long q), .second, .val (.ref b104), .val (.int (0 : Int32)), .val (.int (0 : Int32)), .val (.int (1 : Int32)), .val (.int (if ((hh + ss) + s2) = q then 1 else 0))] [(.int (1 : Int32))]) _
                refine Jvm.OwnWp.iconst K (1 : Int32) at_203 (by decide) (pc' := 204) rfl ?_
                refine goto' K at_204 (pc' := 208) (by decide) (by decide) ?_
                refine icN K at_208 (by decide) (pc' := 211) rfl ?_
                refine Jvm.OwnWp.iload K at_211 rfl (pc' := 213) rfl ?_
                refine Jvm.OwnWp.lload K at_213 rfl (pc' := 215) rfl ?_
                refine Jvm.OwnWp.lload K at_215 rfl (pc' := 217) rfl ?_
                refine Jvm.OwnWp.lload K at_217 rfl (pc' := 219) rfl ?_
                refine Jvm.OwnWp.ladd K at_219 (pc' := 220) rfl ?_
                refine Jvm.OwnWp.lcmp K at_220 (pc' := 221) rfl ?_
                by_cases k4 : q = ((hh + ss) + s2)
                · refine ifN K at_221 (XT.ll_ne_f k4) (pc' := 224) rfl ?_
                  rw [if_pos k4.symm]
                  show Go _ _ _ _ _ _ _ _ _ _ _ h111 9 34 (mkF m 224 #[.val (.long pa), .second, .val (.long pb), .second, .val (.long pc_), .second, .val (.long pd_), .second, .val (.long now), .second, .val (.int mode), .val (.long hh), .second, .val (.long ss), .second, .val (.long s2), .second, .val (.long (hh + ss)), .second, .val (.long q), .second, .val (.ref b104), .val (.int (0 : Int32)), .val (.int (0 : Int32)), .val (.int (1 : Int32)), .val (.int (1 : Int32))] [(.int (1 : Int32))]) _
                  refine Jvm.OwnWp.iconst K (1 : Int32) at_224 (by decide) (pc' := 225) rfl ?_
                  refine goto' K at_225 (pc' := 229) (by decide) (by decide) ?_
                  refine icN K at_229 (by decide) (pc' := 232) rfl ?_
                  refine Jvm.OwnWp.iconst K (1 : Int32) at_232 (by decide) (pc' := 233) rfl ?_
                  refine goto' K at_233 (pc' := 237) (by decide) (by decide) ?_
                  refine retB K (t := .boolean) rfl (by simp) at_237 (Nat.le_of_ble_eq_true rfl) (Nat.le_of_ble_eq_true rfl) ?_
                  rfl
                · refine ifY K at_221 (XT.ll_ne_t k4) (pc' := 228) (by decide) (by decide) ?_
                  rw [if_neg (fun e => k4 e.symm)]
                  show Go _ _ _ _ _ _ _ _ _ _ _ h111 9 34 (mkF m 228 #[.val (.long pa), .second, .val (.long pb), .second, .val (.long pc_), .second, .val (.long pd_), .second, .val (.long now), .second, .val (.int mode), .val (.long hh), .second, .val (.long ss), .second, .val (.long s2), .second, .val (.long (hh + ss)), .second, .val (.long q), .second, .val (.ref b104), .val (.int (0 : Int32)), .val (.int (0 : Int32)), .val (.int (1 : Int32)), .val (.int (0 : Int32))] [(.int (0 : Int32))]) _
                  refine Jvm.OwnWp.iconst K (0 : Int32) at_228 (by decide) (pc' := 229) rfl ?_
                  refine icN K at_229 (by decide) (pc' := 232) rfl ?_
                  refine Jvm.OwnWp.iconst K (1 : Int32) at_232 (by decide) (pc' := 233) rfl ?_
                  refine goto' K at_233 (pc' := 237) (by decide) (by decide) ?_
                  refine retB K (t := .boolean) rfl (by simp) at_237 (Nat.le_of_ble_eq_true rfl) (Nat.le_of_ble_eq_true rfl) ?_
                  rfl
              · refine ifY K at_200 (XT.ll_ne_t k3) (pc' := 207) (by decide) (by decide) ?_
                rw [if_neg (fun e => k3 e.symm)]
                show Go _ _ _ _ _ _ _ _ _ _ _ h111 9 34 (mkF m 207 #[.val (.long pa), .second, .val (.long pb), .second, .val (.long pc_), .second, .val (.long pd_), .second, .val (.long now), .second, .val (.int mode), .val (.long hh), .second, .val (.long ss), .second, .val (.long s2), .second, .val (.long (hh + ss)), .second, .val (.long q), .second, .val (.ref b104), .val (.int (0 : Int32)), .val (.int (0 : Int32)), .val (.int (0 : Int32)), .val (.int (if ((hh + ss) + s2) = q then 1 else 0))] [(.int (0 : Int32))]) _
                refine Jvm.OwnWp.iconst K (0 : Int32) at_207 (by decide) (pc' := 208) rfl ?_
                refine icN K at_208 (by decide) (pc' := 211) rfl ?_
                refine Jvm.OwnWp.iload K at_211 rfl (pc' := 213) rfl ?_
                refine Jvm.OwnWp.lload K at_213 rfl (pc' := 215) rfl ?_
                refine Jvm.OwnWp.lload K at_215 rfl (pc' := 217) rfl ?_
                refine Jvm.OwnWp.lload K at_217 rfl (pc' := 219) rfl ?_
                refine Jvm.OwnWp.ladd K at_219 (pc' := 220) rfl ?_
                refine Jvm.OwnWp.lcmp K at_220 (pc' := 221) rfl ?_
                by_cases k4 : q = ((hh + ss) + s2)
                · refine ifN K at_221 (XT.ll_ne_f k4) (pc' := 224) rfl ?_
                  rw [if_pos k4.symm]
                  show Go _ _ _ _ _ _ _ _ _ _ _ h111 9 34 (mkF m 224 #[.val (.long pa), .second, .val (.long pb), .second, .val (.long pc_), .second, .val (.long pd_), .second, .val (.long now), .second, .val (.int mode), .val (.long hh), .second, .val (.long ss), .second, .val (.long s2), .second, .val (.long (hh + ss)), .second, .val (.long q), .second, .val (.ref b104), .val (.int (0 : Int32)), .val (.int (0 : Int32)), .val (.int (0 : Int32)), .val (.int (1 : Int32))] [(.int (1 : Int32))]) _
                  refine Jvm.OwnWp.iconst K (1 : Int32) at_224 (by decide) (pc' := 225) rfl ?_
                  refine goto' K at_225 (pc' := 229) (by decide) (by decide) ?_
                  refine icN K at_229 (by decide) (pc' := 232) rfl ?_
                  refine Jvm.OwnWp.iconst K (1 : Int32) at_232 (by decide) (pc' := 233) rfl ?_
                  refine goto' K at_233 (pc' := 237) (by decide) (by decide) ?_
                  refine retB K (t := .boolean) rfl (by simp) at_237 (Nat.le_of_ble_eq_true rfl) (Nat.le_of_ble_eq_true rfl) ?_
                  rfl
                · refine ifY K at_221 (XT.ll_ne_t k4) (pc' := 228) (by decide) (by decide) ?_
                  rw [if_neg (fun e => k4 e.symm)]
                  show Go _ _ _ _ _ _ _ _ _ _ _ h111 9 34 (mkF m 228 #[.val (.long pa), .second, .val (.long pb), .second, .val (.long pc_), .second, .val (.long pd_), .second, .val (.long now), .second, .val (.int mode), .val (.long hh), .second, .val (.long ss), .second, .val (.long s2), .second, .val (.long (hh + ss)), .second, .val (.long q), .second, .val (.ref b104), .val (.int (0 : Int32)), .val (.int (0 : Int32)), .val (.int (0 : Int32)), .val (.int (0 : Int32))] [(.int (0 : Int32))]) _
                  refine Jvm.OwnWp.iconst K (0 : Int32) at_228 (by decide) (pc' := 229) rfl ?_
                  refine icN K at_229 (by decide) (pc' := 232) rfl ?_
                  refine Jvm.OwnWp.iconst K (1 : Int32) at_232 (by decide) (pc' := 233) rfl ?_
                  refine goto' K at_233 (pc' := 237) (by decide) (by decide) ?_
                  refine retB K (t := .boolean) rfl (by simp) at_237 (Nat.le_of_ble_eq_true rfl) (Nat.le_of_ble_eq_true rfl) ?_
                  rfl
        by_cases J4c : (mode &&& (8 : Int32)) = 0
        · refine ifY K at_67 (XT.i0_eq_t J4c) (pc' := 75) (by decide) (by decide) ?_
          refine Jvm.OwnWp.lload K at_75 rfl (pc' := 77) rfl ?_
          refine Jvm.OwnWp.ldc2J K (wd1 hw) at_77 (pc' := 80) rfl ?_
          refine Jvm.OwnWp.land K at_80 (pc' := 81) rfl ?_
          refine Jvm.OwnWp.lload K at_81 rfl (pc' := 83) rfl ?_
          refine Jvm.OwnWp.lconst K (1 : Int64) at_83 (by decide) (pc' := 84) rfl ?_
          refine Jvm.OwnWp.ladd K at_84 (pc' := 85) rfl ?_
          refine Jvm.OwnWp.lrem K at_85 nz (pc' := 86) rfl ?_
          exact J4 _ ⟨q1, q2⟩
        · refine ifN K at_67 (XT.i0_eq_f J4c) (pc' := 70) rfl ?_
          refine Jvm.OwnWp.lload K at_70 rfl (pc' := 72) rfl ?_
          refine goto' K at_72 (pc' := 86) (by decide) (by decide) ?_
          exact J4 _ ⟨b1, Int.le_refl _⟩
      by_cases J3c : (mode &&& (4 : Int32)) = 0
      · refine ifY K at_40 (XT.i0_eq_t J3c) (pc' := 47) (by decide) (by decide) ?_
        refine Jvm.OwnWp.lload K at_47 rfl (pc' := 49) rfl ?_
        refine Jvm.OwnWp.ldc2J K (wd0 hw) at_49 (pc' := 52) rfl ?_
        refine Jvm.OwnWp.land K at_52 (pc' := 53) rfl ?_
        exact J3 _ (own_m40 pd_)
      · refine ifN K at_40 (XT.i0_eq_f J3c) (pc' := 43) rfl ?_
        refine Jvm.OwnWp.lconst K (0 : Int64) at_43 (by decide) (pc' := 44) rfl ?_
        refine goto' K at_44 (pc' := 53) (by decide) (by decide) ?_
        exact J3 _ own_z40
    by_cases J2c : (mode &&& (2 : Int32)) = 0
    · refine ifY K at_22 (XT.i0_eq_t J2c) (pc' := 29) (by decide) (by decide) ?_
      refine Jvm.OwnWp.lloadN K at_29 rfl (pc' := 30) rfl ?_
      refine Jvm.OwnWp.ldc2J K (wd0 hw) at_30 (pc' := 33) rfl ?_
      refine Jvm.OwnWp.land K at_33 (pc' := 34) rfl ?_
      exact J2 _ (own_m40 pb)
    · refine ifN K at_22 (XT.i0_eq_f J2c) (pc' := 25) rfl ?_
      refine Jvm.OwnWp.lconst K (0 : Int64) at_25 (by decide) (pc' := 26) rfl ?_
      refine goto' K at_26 (pc' := 34) (by decide) (by decide) ?_
      exact J2 _ own_z40
  by_cases J1c : (mode &&& (1 : Int32)) = 0
  · refine ifY K at_4 (XT.i0_eq_t J1c) (pc' := 11) (by decide) (by decide) ?_
    refine Jvm.OwnWp.lloadN K at_11 rfl (pc' := 12) rfl ?_
    refine Jvm.OwnWp.ldc2J K (wd0 hw) at_12 (pc' := 15) rfl ?_
    refine Jvm.OwnWp.land K at_15 (pc' := 16) rfl ?_
    exact J1 _ (own_m40 pa)
  · refine ifN K at_4 (XT.i0_eq_f J1c) (pc' := 7) rfl ?_
    refine Jvm.OwnWp.lconst K (0 : Int64) at_7 (by decide) (pc' := 8) rfl ?_
    refine goto' K at_8 (pc' := 16) (by decide) (by decide) ?_
    exact J1 _ own_z40
set_option maxRecDepth 65536 in
set_option maxHeartbeats 40000000 in
theorem comes_1 {Post : Tables → Env → Array Value → State → Outcome → State → Prop} (hpost : ∀ tb e args s v u, (limb_1_1.after args s (.returned v) u = true ∧ limb_1_2.after args s (.returned v) u = true ∧ True) → FrameEnd s (.returned v) u (Jvm.fieldLocs frame_1_writes args s ++ Jvm.arrayLocs frame_1_arrays args s ++ Jvm.staticLocs frame_1_statics s) 32 192 → Post tb e args s (.returned v) u) :
    ArmFor flags0 classFile x code maxLocals ret World_1 tables_1 room_1 Calls_1 rest_1 Pre_1 Post := by
  intro l hfl _ _ p e ha hc hk s m args below hf hA hF happ hP
  obtain ⟨hcalls, hrest, hpre⟩ := hP
  obtain ⟨-, -, -, hnamed, -, -, -, hat⟩ := (Spec.applies_iff hf).mp happ
  obtain ⟨hg, hn⟩ := and_e (Cond.before_iff.mp (show (Jvm.Cond.and given_1 narrow_1).before args s = true from hpre))
  obtain ⟨q0, r0⟩ := and_e hg
  obtain ⟨q1, r1⟩ := and_e r0
  obtain ⟨q2, r2⟩ := and_e r1
  obtain ⟨q3, r3⟩ := and_e r2
  obtain ⟨q4, r4⟩ := and_e r3
  obtain ⟨q5, r5⟩ := and_e r4
  have q6 := r5
  obtain ⟨w0, w1, w2, w3, w4, w5, rfl⟩ : ∃ w0 w1 w2 w3 w4 w5 : Value, args = #[w0, w1, w2, w3, w4, w5] := by
    have hs : args.size = 6 := by simpa [Cond.value, given_1] using q0
    obtain ⟨L⟩ := args
    match L, hs with
    | [w0, w1, w2, w3, w4, w5], _ => exact ⟨w0, w1, w2, w3, w4, w5, rfl⟩
  have hw := fun d (hd : d ∈ tables_1) => atoms_spec (ws := Jvm.Cond.code x code maxLocals ret :: tables_1) hat d (List.mem_cons_of_mem _ hd)
  have hfit : Fit s := fun {y c} hc i hi => by
    obtain ⟨ha, rfl⟩ := Array.getElem?_eq_some_iff.mp hc
    have q := List.all_eq_true.mp ((Array.all_eq_true_iff_forall_mem.mp hF) _ (Array.getElem_mem ha)) i (List.mem_range.mpr hi)
    simpa [Array.getElem?_eq_getElem hi] using q
  obtain ⟨i0, e0⟩ := isL_v q1
  obtain rfl : w0 = (.long i0) := Option.some.inj e0
  obtain ⟨i1, e1⟩ := isL_v q2
  obtain rfl : w1 = (.long i1) := Option.some.inj e1
  obtain ⟨i2, e2⟩ := isL_v q3
  obtain rfl : w2 = (.long i2) := Option.some.inj e2
  obtain ⟨i3, e3⟩ := isL_v q4
  obtain rfl : w3 = (.long i3) := Option.some.inj e3
  obtain ⟨i4, e4⟩ := isL_v q5
  obtain rfl : w4 = (.long i4) := Option.some.inj e4
  obtain ⟨i5, e5⟩ := is_v q6
  obtain rfl : w5 = (.int i5) := Option.some.inj e5
  obtain ⟨mr, M0⟩ : ∃ mr, MirAt s "[Ljava/lang/Object;" mr := by obtain ⟨⟨c, k, mr, q1, q2, q3⟩, -⟩ := hcalls; exact ⟨mr, c, k, q1, q2, by first | exact q3 | exact q3.1⟩
  obtain ⟨n, o, h1, h2, h3, _, L, rfl, ⟨rfl, N⟩, hq⟩ := c_law l s _ hw tables_1 i0 i1 i2 i3 i4 i5 mr s.heap s.heap.size (Nat.le_refl _) M0 p e ha hc hk s m _ below hf ((Spec.applies_iff_loose hf).mp happ).1 ⟨rfl, State.Warmed39.refl s, rfl⟩ trivial
  refine ⟨n, _, h1, h2, h3, hpost _ _ _ _ _ _ ⟨Cond.after_iff.mpr rfl, Cond.after_iff.mpr (eq_i res_at (Term.int_eval (1)) rfl), trivial⟩ ⟨hq.1, hq.2.1, (hq.2.2.sift fun y hy => Or.inr (N y hy)).mono (by decide) (by decide)⟩⟩
theorem main_1_1 : Claimed_1_1 := comes_1 fun _ _ _ _ _ _ h hF => ⟨h.1, hF⟩
theorem main_1_2 : Claimed_1_2 := comes_1 fun _ _ _ _ _ _ h hF => ⟨h.2.1, hF⟩
end Jvm.Pilot.@@N@@
namespace Jvm.Pilot.@@N@@
open Jvm Jvm.ClassFile Sem Op Lib Jvm.Free Jvm.Stand Jvm.Pilot.@@N@@.Jvm.D
/-! MADE BY PROGRAM (witnessworld.py) out of the Statement's table words and the real class files: 22 classes; the members and pool entries that the words name. The judged class is class 1, her method 1. -/
namespace start1
open Jvm.ClassFile
def u (s : String) : CpInfo := .utf8 (stringToUtf16 s)
/-- a pool by its gaps: so many unusable entries, then the entry; so many at the end -/
def gap : Nat → List CpInfo → List CpInfo
  | 0, r => r
  | n + 1, r => .unusable :: gap n r
def poolList (es : List (Nat × CpInfo)) (last : Nat) : List CpInfo := es.foldr (fun e r => gap e.1 (e.2 :: r)) (gap last [])
def pool (es : List (Nat × CpInfo)) (last : Nat) : Array CpInfo := ⟨poolList es last⟩
def fileOf (pool : Array CpInfo) (this : Nat) (attrs : Array Attribute := #[]) (ms : Array MethodInfo := #[]) (fl : Nat := 33) (sup : Nat := 0) (ifs : Array Nat := #[]) (fds : Array FieldInfo := #[]) : ClassFile where
  minorVersion := 0
  majorVersion := 65
  constantPool := pool
  accessFlags := fl
  thisClass := this
  superClass := sup
  interfaces := ifs
  fields := fds
  methods := ms
  attributes := attrs
def plain (name : String) (sup : Option ClassId) : Class where
  name := name
  kind := .ordinary
  loader := none
  accessFlags := 33
  super := sup
  interfaces := #[]
  cf := none
  fields := #[]
  methods := #[]
  instanceTypes := #[]
  staticTypes := #[]
  resolved := #[]
  callSites := []
  init := .initialized
  statics := none
  mirror := none

def pool0 : Array CpInfo := pool [(5, u "<init>"), (0, u "()V"), (1, .class_ 10), (1, u "java/lang/Object"), (0, u "getClass"), (0, u "()Ljava/lang/Class;")] 111

def k0c0 : Code := { maxStack := 0, maxLocals := 1, code := object_method_1_code, exceptionTable := #[], attributes := #[] }
def k0m0 : Method := { name := "<init>", desc := "()V", sig := { parameters := [], returnType := none }, accessFlags := 1, code := some k0c0 }
def k0m1 : Method := { name := "getClass", desc := "()Ljava/lang/Class;", sig := { parameters := [], returnType := some (.object "java/lang/Class") }, accessFlags := 273, code := none }
/-- java/lang/Object -/
def k0 : Class := { plain "java/lang/Object" none with
  accessFlags := 33
  interfaces := #[]
  cf := some (fileOf pool0 8 #[] #[{ accessFlags := 1, nameIndex := 5, descriptorIndex := 6, attributes := #[] }, { accessFlags := 273, nameIndex := 11, descriptorIndex := 12, attributes := #[] }] 33 0 #[] #[])
  fields := #[]
  methods := #[k0m0, k0m1]
  instanceTypes := #[]
  staticTypes := #[]
  resolved := Array.replicate 124 none
  statics := none }

def pool1 : Array CpInfo := pool [(2, .class_ 4), (1, u "java/lang/Object"), (0, u "<init>"), (0, u "()V"), (0, .long 1099511627775), (3, .long 9223372036854775807), (1, .class_ 14), (0, u "com/example/adaptive_mirror/adaptivemirror/net/InFlight"), (0, .methodref 13 16), (0, .nameAndType 5 17), (0, u "(JJ)V"), (0, .methodref 13 19), (0, .nameAndType 20 21), (0, u "isEmpty"), (0, u "()Z"), (0, .methodref 13 23), (0, .nameAndType 24 25), (0, u "written"), (0, u "(JJ)J"), (0, .methodref 13 27), (0, .nameAndType 28 29), (0, u "acknowledged"), (0, u "(JJ)I"), (0, .class_ 31), (0, u "com/example/adaptive_mirror/adaptivemirror/net/InFlightIsEmptyPinLaw"), (2, u "law"), (0, u "(JJJJJI)Z")] 6

def k1m0 : Method := { name := "<init>", desc := "()V", sig := { parameters := [], returnType := none }, accessFlags := 1, code := none }
def k1c1 : Code := { maxStack := 7, maxLocals := 26, code := code, exceptionTable := #[], attributes := #[] }
def k1m1 : Method := { name := "law", desc := "(JJJJJI)Z", sig := { parameters := [.long, .long, .long, .long, .long, .int], returnType := some .boolean }, accessFlags := 9, code := some k1c1 }
/-- com/example/adaptive_mirror/adaptivemirror/net/InFlightIsEmptyPinLaw -/
def k1 : Class := { plain "com/example/adaptive_mirror/adaptivemirror/net/InFlightIsEmptyPinLaw" (some 0) with
  accessFlags := 49
  interfaces := #[]
  cf := some (fileOf pool1 30 #[] #[{ accessFlags := 1, nameIndex := 5, descriptorIndex := 6, attributes := #[] }, { accessFlags := 9, nameIndex := 34, descriptorIndex := 35, attributes := #[] }] 49 2 #[] #[])
  fields := #[]
  methods := #[k1m0, k1m1]
  instanceTypes := #[]
  staticTypes := #[]
  resolved := Array.replicate 42 none
  statics := none }

def pool2 : Array CpInfo := pool [(1, .methodref 2 3), (0, .class_ 4), (0, .nameAndType 5 6), (0, u "java/lang/Object"), (0, u "<init>"), (0, u "()V"), (0, .class_ 8), (0, u "java/util/ArrayDeque"), (0, .methodref 7 10), (0, .nameAndType 5 11), (0, u "(I)V"), (0, .fieldref 13 14), (0, .class_ 15), (0, .nameAndType 16 17), (0, u "com/example/adaptive_mirror/adaptivemirror/net/InFlight"), (0, u "frames"), (0, u "Ljava/util/Queue;"), (0, .fieldref 13 19), (0, .nameAndType 20 17), (0, u "flushes"), (2, .long 9223372036854775807), (1, .fieldref 13 26), (0, .nameAndType 27 28), (0, u "roundTrip"), (0, u "J"), (0, .fieldref 13 30), (0, .nameAndType 31 28), (0, u "written"), (0, .fieldref 13 33), (0, .nameAndType 34 28), (0, u "flushed"), (0, .class_ 36), (0, u "com/example/adaptive_mirror/adaptivemirror/net/InFlight$Flush"), (0, .methodref 35 38), (0, .nameAndType 5 39), (0, u "(JJ)V"), (0, .interfaceMethodref 41 42), (0, .class_ 43), (0, .nameAndType 44 45), (0, u "java/util/Queue"), (0, u "add"), (0, u "(Ljava/lang/Object;)Z"), (0, .fieldref 13 47), (0, .nameAndType 48 28), (0, u "acknowledged"), (0, .methodref 13 50), (0, .nameAndType 51 52), (0, u "limit"), (0, u "()J"), (0, .long 65536), (1, .long 2), (1, .fieldref 13 58), (0, .nameAndType 59 28), (0, u "carried"), (0, .methodref 61 62), (0, .class_ 63), (0, .nameAndType 64 65), (0, u "java/lang/Math"), (0, u "max"), (0, u "(JJ)J"), (0, .class_ 67), (0, u "com/example/adaptive_mirror/adaptivemirror/net/InFlight$Frame"), (0, .methodref 66 69), (0, .nameAndType 5 70), (0, u "(JJJJ)V"), (9, .interfaceMethodref 41 81), (0, .nameAndType 82 83), (0, u "isEmpty"), (0, u "()Z"), (0, .interfaceMethodref 41 85), (0, .nameAndType 86 87), (0, u "peek"), (0, u "()Ljava/lang/Object;"), (0, .methodref 35 89), (0, .nameAndType 90 52), (0, u "end"), (0, .interfaceMethodref 41 92), (0, .nameAndType 93 87), (0, u "remove"), (0, .methodref 35 95), (0, .nameAndType 96 52), (0, u "at"), (0, .methodref 61 98), (0, .nameAndType 99 65), (0, u "min"), (0, .methodref 66 89), (0, .methodref 13 102), (0, .nameAndType 103 104), (0, u "measure"), (0, u "(Lcom/example/adaptive_mirror/adaptivemirror/net/InFlight$Frame;J)V"), (0, .methodref 66 106), (0, .nameAndType 107 52), (0, u "began"), (0, .methodref 66 109), (0, .nameAndType 110 52), (0, u "acknowledgedThen"), (0, .methodref 66 112), (0, .nameAndType 113 52), (0, u "limitThen"), (0, .fieldref 13 115), (0, .nameAndType 116 28), (0, u "carriedAt"), (0, .long 10), (8, u "LEAST_LIMIT"), (0, u "I"), (2, u "KEPT_ROUND_TRIPS"), (11, u "(JJ)I")] 21

def k2c0 : Code := { maxStack := 7, maxLocals := 5, code := prog_89_method_1_code, exceptionTable := #[], attributes := #[] }
def k2m0 : Method := { name := "<init>", desc := "(JJ)V", sig := { parameters := [.long, .long], returnType := none }, accessFlags := 0, code := some k2c0 }
def k2c1 : Code := { maxStack := 4, maxLocals := 1, code := prog_89_method_2_code, exceptionTable := #[], attributes := #[] }
def k2m1 : Method := { name := "isEmpty", desc := "()Z", sig := { parameters := [], returnType := some .boolean }, accessFlags := 0, code := some k2c1 }
def k2c2 : Code := { maxStack := 6, maxLocals := 1, code := prog_89_method_5_code, exceptionTable := #[], attributes := #[] }
def k2m2 : Method := { name := "limit", desc := "()J", sig := { parameters := [], returnType := some .long }, accessFlags := 0, code := some k2c2 }
def k2c3 : Code := { maxStack := 11, maxLocals := 7, code := prog_89_method_6_code, exceptionTable := #[], attributes := #[] }
def k2m3 : Method := { name := "written", desc := "(JJ)J", sig := { parameters := [.long, .long], returnType := some .long }, accessFlags := 0, code := some k2c3 }
def k2c4 : Code := { maxStack := 8, maxLocals := 6, code := prog_89_method_8_code, exceptionTable := #[], attributes := #[] }
def k2m4 : Method := { name := "acknowledged", desc := "(JJ)I", sig := { parameters := [.long, .long], returnType := some .int }, accessFlags := 0, code := some k2c4 }
def k2c5 : Code := { maxStack := 6, maxLocals := 12, code := prog_89_method_9_code, exceptionTable := #[], attributes := #[] }
def k2m5 : Method := { name := "measure", desc := "(Lcom/example/adaptive_mirror/adaptivemirror/net/InFlight$Frame;J)V", sig := { parameters := [(.object "com/example/adaptive_mirror/adaptivemirror/net/InFlight$Frame"), .long], returnType := none }, accessFlags := 2, code := some k2c5 }
/-- com/example/adaptive_mirror/adaptivemirror/net/InFlight -/
def k2 : Class := { plain "com/example/adaptive_mirror/adaptivemirror/net/InFlight" (some 0) with
  accessFlags := 48
  interfaces := #[]
  cf := some (fileOf pool2 13 #[.nestMembers #[35, 66]] #[{ accessFlags := 0, nameIndex := 5, descriptorIndex := 39, attributes := #[] }, { accessFlags := 0, nameIndex := 82, descriptorIndex := 83, attributes := #[] }, { accessFlags := 0, nameIndex := 51, descriptorIndex := 52, attributes := #[] }, { accessFlags := 0, nameIndex := 31, descriptorIndex := 65, attributes := #[] }, { accessFlags := 0, nameIndex := 48, descriptorIndex := 142, attributes := #[] }, { accessFlags := 2, nameIndex := 103, descriptorIndex := 104, attributes := #[] }] 48 2 #[] #[{ accessFlags := 24, nameIndex := 126, descriptorIndex := 127, attributes := #[] }, { accessFlags := 26, nameIndex := 130, descriptorIndex := 127, attributes := #[] }, { accessFlags := 18, nameIndex := 16, descriptorIndex := 17, attributes := #[] }, { accessFlags := 18, nameIndex := 20, descriptorIndex := 17, attributes := #[] }, { accessFlags := 2, nameIndex := 31, descriptorIndex := 28, attributes := #[] }, { accessFlags := 2, nameIndex := 34, descriptorIndex := 28, attributes := #[] }, { accessFlags := 2, nameIndex := 48, descriptorIndex := 28, attributes := #[] }, { accessFlags := 2, nameIndex := 27, descriptorIndex := 28, attributes := #[] }, { accessFlags := 2, nameIndex := 59, descriptorIndex := 28, attributes := #[] }, { accessFlags := 2, nameIndex := 116, descriptorIndex := 28, attributes := #[] }])
  fields := #[{ name := "LEAST_LIMIT", type := .int, accessFlags := 24, slot := 0, constantValue := 0 }, { name := "KEPT_ROUND_TRIPS", type := .int, accessFlags := 26, slot := 1, constantValue := 0 }, { name := "frames", type := (.object "java/util/Queue"), accessFlags := 18, slot := 0, constantValue := 0 }, { name := "flushes", type := (.object "java/util/Queue"), accessFlags := 18, slot := 1, constantValue := 0 }, { name := "written", type := .long, accessFlags := 2, slot := 2, constantValue := 0 }, { name := "flushed", type := .long, accessFlags := 2, slot := 3, constantValue := 0 }, { name := "acknowledged", type := .long, accessFlags := 2, slot := 4, constantValue := 0 }, { name := "roundTrip", type := .long, accessFlags := 2, slot := 5, constantValue := 0 }, { name := "carried", type := .long, accessFlags := 2, slot := 6, constantValue := 0 }, { name := "carriedAt", type := .long, accessFlags := 2, slot := 7, constantValue := 0 }]
  methods := #[k2m0, k2m1, k2m2, k2m3, k2m4, k2m5]
  instanceTypes := #[(.object "java/util/Queue"), (.object "java/util/Queue"), .long, .long, .long, .long, .long, .long]
  staticTypes := #[.int, .int]
  resolved := ⟨[none, none, none, none, none, none, none, none, none, none, none, none, none, none, none, none, none, none, none, none, none, none, none, none, none, none, none, none, none, none, none, none, none, none, none, some (.cls 13), none, some (.method ⟨13, 0⟩), none, none, none, none, none, none, none, none, none, none, none, none, none, none, none, none, none, none, none, none, none, none, none, none, none, none, none, none, some (.cls 14), none, some (.method ⟨14, 0⟩), none, none, none, none, none, none, none, none, none, none, none, none, none, none, none, none, none, none, none, none, none, none, none, none, none, none, none, none, none, none, none, none, none, none, none, none, none, none, none, none, none, none, none, none, none, none, none, none, none, none, none, none, none, none, none, none, none, none, none, none, none, none, none, none, none, none, none, none, none, none, none, none, none, none, none, none, none, none, none, none, none, none, none, none, none, none, none, none, none, none, none, none, none, none, none]⟩
  statics := none }

def pool3 : Array CpInfo := pool [(8, .class_ 10), (1, u "java/lang/Iterable"), (24, .class_ 36), (0, u "java/lang/Object")] 25

/-- java/lang/Iterable -/
def k3 : Class := { plain "java/lang/Iterable" (some 0) with
  accessFlags := 1537
  interfaces := #[]
  cf := some (fileOf pool3 8 #[] #[] 1537 35 #[] #[])
  fields := #[]
  methods := #[]
  instanceTypes := #[]
  staticTypes := #[]
  resolved := Array.replicate 62 none
  statics := none }

def pool4 : Array CpInfo := pool [(10, .class_ 12), (1, u "java/util/Collection"), (17, u "()Z"), (29, .class_ 61), (0, u "java/lang/Object"), (0, .class_ 63), (0, u "java/lang/Iterable"), (2, u "isEmpty")] 48

def k4m0 : Method := { name := "isEmpty", desc := "()Z", sig := { parameters := [], returnType := some .boolean }, accessFlags := 1025, code := none }
/-- java/util/Collection -/
def k4 : Class := { plain "java/util/Collection" (some 0) with
  accessFlags := 1537
  interfaces := #[3]
  cf := some (fileOf pool4 10 #[] #[{ accessFlags := 1025, nameIndex := 66, descriptorIndex := 30, attributes := #[] }] 1537 60 #[62] #[])
  fields := #[]
  methods := #[k4m0]
  instanceTypes := #[]
  staticTypes := #[]
  resolved := Array.replicate 115 none
  statics := none }

def pool5 : Array CpInfo := pool [(1, .methodref 2 3), (0, .class_ 4), (0, .nameAndType 5 6), (0, u "java/lang/Object"), (0, u "<init>"), (0, u "()V"), (1, .class_ 10), (1, u "java/util/AbstractCollection"), (66, .class_ 78), (0, u "java/util/Collection")] 81

def k5c0 : Code := { maxStack := 1, maxLocals := 1, code := jdk_22_method_1_code, exceptionTable := #[], attributes := #[] }
def k5m0 : Method := { name := "<init>", desc := "()V", sig := { parameters := [], returnType := none }, accessFlags := 4, code := some k5c0 }
/-- java/util/AbstractCollection -/
def k5 : Class := { plain "java/util/AbstractCollection" (some 0) with
  accessFlags := 1057
  interfaces := #[4]
  cf := some (fileOf pool5 8 #[] #[{ accessFlags := 4, nameIndex := 5, descriptorIndex := 6, attributes := #[] }] 1057 2 #[77] #[])
  fields := #[]
  methods := #[k5m0]
  instanceTypes := #[]
  staticTypes := #[]
  resolved := Array.replicate 160 none
  statics := none }

def pool6 : Array CpInfo := pool [(1, .class_ 2), (0, u "java/util/Queue"), (0, .class_ 4), (0, u "java/lang/Object"), (0, .class_ 6), (0, u "java/util/Collection"), (0, u "add"), (0, u "(Ljava/lang/Object;)Z"), (3, u "remove"), (0, u "()Ljava/lang/Object;"), (3, u "peek")] 3

def k6m0 : Method := { name := "add", desc := "(Ljava/lang/Object;)Z", sig := { parameters := [(.object "java/lang/Object")], returnType := some .boolean }, accessFlags := 1025, code := none }
def k6m1 : Method := { name := "remove", desc := "()Ljava/lang/Object;", sig := { parameters := [], returnType := some (.object "java/lang/Object") }, accessFlags := 1025, code := none }
def k6m2 : Method := { name := "peek", desc := "()Ljava/lang/Object;", sig := { parameters := [], returnType := some (.object "java/lang/Object") }, accessFlags := 1025, code := none }
/-- java/util/Queue -/
def k6 : Class := { plain "java/util/Queue" (some 0) with
  accessFlags := 1537
  interfaces := #[4]
  cf := some (fileOf pool6 1 #[] #[{ accessFlags := 1025, nameIndex := 7, descriptorIndex := 8, attributes := #[] }, { accessFlags := 1025, nameIndex := 12, descriptorIndex := 13, attributes := #[] }, { accessFlags := 1025, nameIndex := 17, descriptorIndex := 13, attributes := #[] }] 1537 3 #[5] #[])
  fields := #[]
  methods := #[k6m0, k6m1, k6m2]
  instanceTypes := #[]
  staticTypes := #[]
  resolved := Array.replicate 21 none
  statics := none }

def pool7 : Array CpInfo := pool [(8, .class_ 10), (1, u "java/util/SequencedCollection"), (15, .class_ 27), (0, u "java/lang/Object"), (0, .class_ 29), (0, u "java/util/Collection")] 27

/-- java/util/SequencedCollection -/
def k7 : Class := { plain "java/util/SequencedCollection" (some 0) with
  accessFlags := 1537
  interfaces := #[4]
  cf := some (fileOf pool7 8 #[] #[] 1537 26 #[28] #[])
  fields := #[]
  methods := #[]
  instanceTypes := #[]
  staticTypes := #[]
  resolved := Array.replicate 57 none
  statics := none }

def pool8 : Array CpInfo := pool [(8, .class_ 10), (1, u "java/util/Deque"), (2, .class_ 14), (0, u "java/lang/Object"), (0, .class_ 16), (0, u "java/util/Queue"), (0, .class_ 18), (0, u "java/util/SequencedCollection")] 51

/-- java/util/Deque -/
def k8 : Class := { plain "java/util/Deque" (some 0) with
  accessFlags := 1537
  interfaces := #[6, 7]
  cf := some (fileOf pool8 8 #[] #[] 1537 13 #[15, 17] #[])
  fields := #[]
  methods := #[]
  instanceTypes := #[]
  staticTypes := #[]
  resolved := Array.replicate 70 none
  statics := none }

def pool9 : Array CpInfo := pool [(1, .class_ 2), (0, u "java/lang/Cloneable"), (0, .class_ 4), (0, u "java/lang/Object")] 2

/-- java/lang/Cloneable -/
def k9 : Class := { plain "java/lang/Cloneable" (some 0) with
  accessFlags := 1537
  interfaces := #[]
  cf := some (fileOf pool9 1 #[] #[] 1537 3 #[] #[])
  fields := #[]
  methods := #[]
  instanceTypes := #[]
  staticTypes := #[]
  resolved := Array.replicate 7 none
  statics := none }

def pool10 : Array CpInfo := pool [(1, .class_ 2), (0, u "java/io/Serializable"), (0, .class_ 4), (0, u "java/lang/Object")] 2

/-- java/io/Serializable -/
def k10 : Class := { plain "java/io/Serializable" (some 0) with
  accessFlags := 1537
  interfaces := #[]
  cf := some (fileOf pool10 1 #[] #[] 1537 3 #[] #[])
  fields := #[]
  methods := #[]
  instanceTypes := #[]
  staticTypes := #[]
  resolved := Array.replicate 7 none
  statics := none }

def pool11 : Array CpInfo := pool [(3, .fieldref 4 5), (0, .class_ 6), (0, .nameAndType 7 8), (0, u "java/util/ArrayDeque"), (0, u "elements"), (0, u "[Ljava/lang/Object;"), (0, .integer 2147483639), (3, u "(II)I"), (0, .methodref 15 16), (0, .class_ 17), (0, .nameAndType 18 19), (0, u "java/util/Arrays"), (0, u "copyOf"), (0, u "([Ljava/lang/Object;I)[Ljava/lang/Object;"), (0, .fieldref 4 21), (0, .nameAndType 22 23), (0, u "tail"), (0, u "I"), (0, .fieldref 4 25), (0, .nameAndType 26 23), (0, u "head"), (0, .methodref 28 29), (0, .class_ 30), (0, .nameAndType 31 32), (0, u "java/lang/System"), (0, u "arraycopy"), (0, u "(Ljava/lang/Object;ILjava/lang/Object;II)V"), (6, u "<init>"), (1, .integer 2147483647), (0, .methodref 43 44), (0, .class_ 45), (0, .nameAndType 39 46), (0, u "java/util/AbstractCollection"), (0, u "()V"), (0, .class_ 48), (0, u "java/lang/Object"), (8, u "(I)V"), (13, .methodref 4 72), (0, .nameAndType 73 57), (0, u "grow"), (0, .methodref 4 75), (0, .nameAndType 76 13), (0, u "inc"), (12, u "(Ljava/lang/Object;)V"), (0, .methodref 4 91), (0, .nameAndType 92 89), (0, u "addLast"), (0, .methodref 4 94), (0, .nameAndType 95 96), (0, u "pollFirst"), (0, u "()Ljava/lang/Object;"), (6, .methodref 4 104), (0, .nameAndType 105 106), (0, u "elementAt"), (0, u "([Ljava/lang/Object;I)Ljava/lang/Object;"), (3, u "(Ljava/lang/Object;)Z"), (7, .methodref 4 119), (0, .nameAndType 120 96), (0, u "removeFirst"), (3, .methodref 4 125), (0, .nameAndType 126 96), (0, u "peekFirst"), (4, .class_ 132), (0, u "java/util/ArrayDeque$DeqIterator"), (3, .class_ 137), (0, u "java/util/ArrayDeque$DescendingIterator"), (1, .class_ 140), (0, u "java/util/ArrayDeque$DeqSpliterator"), (137, .class_ 279), (0, u "java/util/Deque"), (0, .class_ 281), (0, u "java/lang/Cloneable"), (0, .class_ 283), (0, u "java/io/Serializable"), (0, u "MAX_ARRAY_SIZE"), (1, u "serialVersionUID"), (0, u "J"), (48, u "add"), (1, u "remove"), (2, u "peek"), (5, u "isEmpty"), (0, u "()Z")] 89

def k11c0 : Code := { maxStack := 6, maxLocals := 9, code := jdk_21_method_1_code, exceptionTable := #[], attributes := #[] }
def k11m0 : Method := { name := "grow", desc := "(I)V", sig := { parameters := [.int], returnType := none }, accessFlags := 2, code := some k11c0 }
def k11m1 : Method := { name := "<init>", desc := "()V", sig := { parameters := [], returnType := none }, accessFlags := 1, code := none }
def k11c2 : Code := { maxStack := 3, maxLocals := 2, code := jdk_21_method_4_code, exceptionTable := #[], attributes := #[] }
def k11m2 : Method := { name := "<init>", desc := "(I)V", sig := { parameters := [.int], returnType := none }, accessFlags := 1, code := some k11c2 }
def k11c3 : Code := { maxStack := 2, maxLocals := 2, code := jdk_21_method_6_code, exceptionTable := #[], attributes := #[] }
def k11m3 : Method := { name := "inc", desc := "(II)I", sig := { parameters := [.int, .int], returnType := some .int }, accessFlags := 24, code := some k11c3 }
def k11c4 : Code := { maxStack := 2, maxLocals := 2, code := jdk_21_method_10_code, exceptionTable := #[], attributes := #[] }
def k11m4 : Method := { name := "elementAt", desc := "([Ljava/lang/Object;I)Ljava/lang/Object;", sig := { parameters := [(.array (.object "java/lang/Object")), .int], returnType := some (.object "java/lang/Object") }, accessFlags := 24, code := some k11c4 }
def k11c5 : Code := { maxStack := 4, maxLocals := 3, code := jdk_21_method_13_code, exceptionTable := #[], attributes := #[] }
def k11m5 : Method := { name := "addLast", desc := "(Ljava/lang/Object;)V", sig := { parameters := [(.object "java/lang/Object")], returnType := none }, accessFlags := 1, code := some k11c5 }
def k11c6 : Code := { maxStack := 2, maxLocals := 2, code := jdk_21_method_18_code, exceptionTable := #[], attributes := #[] }
def k11m6 : Method := { name := "removeFirst", desc := "()Ljava/lang/Object;", sig := { parameters := [], returnType := some (.object "java/lang/Object") }, accessFlags := 1, code := some k11c6 }
def k11c7 : Code := { maxStack := 3, maxLocals := 4, code := jdk_21_method_20_code, exceptionTable := #[], attributes := #[] }
def k11m7 : Method := { name := "pollFirst", desc := "()Ljava/lang/Object;", sig := { parameters := [], returnType := some (.object "java/lang/Object") }, accessFlags := 1, code := some k11c7 }
def k11c8 : Code := { maxStack := 2, maxLocals := 1, code := jdk_21_method_24_code, exceptionTable := #[], attributes := #[] }
def k11m8 : Method := { name := "peekFirst", desc := "()Ljava/lang/Object;", sig := { parameters := [], returnType := some (.object "java/lang/Object") }, accessFlags := 1, code := some k11c8 }
def k11c9 : Code := { maxStack := 2, maxLocals := 2, code := jdk_21_method_28_code, exceptionTable := #[], attributes := #[] }
def k11m9 : Method := { name := "add", desc := "(Ljava/lang/Object;)Z", sig := { parameters := [(.object "java/lang/Object")], returnType := some .boolean }, accessFlags := 1, code := some k11c9 }
def k11c10 : Code := { maxStack := 1, maxLocals := 1, code := jdk_21_method_30_code, exceptionTable := #[], attributes := #[] }
def k11m10 : Method := { name := "remove", desc := "()Ljava/lang/Object;", sig := { parameters := [], returnType := some (.object "java/lang/Object") }, accessFlags := 1, code := some k11c10 }
def k11c11 : Code := { maxStack := 1, maxLocals := 1, code := jdk_21_method_33_code, exceptionTable := #[], attributes := #[] }
def k11m11 : Method := { name := "peek", desc := "()Ljava/lang/Object;", sig := { parameters := [], returnType := some (.object "java/lang/Object") }, accessFlags := 1, code := some k11c11 }
def k11c12 : Code := { maxStack := 2, maxLocals := 1, code := jdk_21_method_38_code, exceptionTable := #[], attributes := #[] }
def k11m12 : Method := { name := "isEmpty", desc := "()Z", sig := { parameters := [], returnType := some .boolean }, accessFlags := 1, code := some k11c12 }
/-- java/util/ArrayDeque -/
def k11 : Class := { plain "java/util/ArrayDeque" (some 5) with
  accessFlags := 33
  interfaces := #[8, 9, 10]
  cf := some (fileOf pool11 4 #[.nestMembers #[139, 136, 131]] #[{ accessFlags := 2, nameIndex := 73, descriptorIndex := 57, attributes := #[] }, { accessFlags := 1, nameIndex := 39, descriptorIndex := 46, attributes := #[] }, { accessFlags := 1, nameIndex := 39, descriptorIndex := 57, attributes := #[] }, { accessFlags := 24, nameIndex := 76, descriptorIndex := 13, attributes := #[] }, { accessFlags := 24, nameIndex := 105, descriptorIndex := 106, attributes := #[] }, { accessFlags := 1, nameIndex := 92, descriptorIndex := 89, attributes := #[] }, { accessFlags := 1, nameIndex := 120, descriptorIndex := 96, attributes := #[] }, { accessFlags := 1, nameIndex := 95, descriptorIndex := 96, attributes := #[] }, { accessFlags := 1, nameIndex := 126, descriptorIndex := 96, attributes := #[] }, { accessFlags := 1, nameIndex := 336, descriptorIndex := 110, attributes := #[] }, { accessFlags := 1, nameIndex := 338, descriptorIndex := 96, attributes := #[] }, { accessFlags := 1, nameIndex := 341, descriptorIndex := 96, attributes := #[] }, { accessFlags := 1, nameIndex := 347, descriptorIndex := 348, attributes := #[] }] 33 43 #[278, 280, 282] #[{ accessFlags := 128, nameIndex := 7, descriptorIndex := 8, attributes := #[] }, { accessFlags := 128, nameIndex := 26, descriptorIndex := 23, attributes := #[] }, { accessFlags := 128, nameIndex := 22, descriptorIndex := 23, attributes := #[] }, { accessFlags := 26, nameIndex := 284, descriptorIndex := 23, attributes := #[] }, { accessFlags := 26, nameIndex := 286, descriptorIndex := 287, attributes := #[] }])
  fields := #[{ name := "elements", type := (.array (.object "java/lang/Object")), accessFlags := 128, slot := 0, constantValue := 0 }, { name := "head", type := .int, accessFlags := 128, slot := 1, constantValue := 0 }, { name := "tail", type := .int, accessFlags := 128, slot := 2, constantValue := 0 }, { name := "MAX_ARRAY_SIZE", type := .int, accessFlags := 26, slot := 0, constantValue := 0 }, { name := "serialVersionUID", type := .long, accessFlags := 26, slot := 1, constantValue := 0 }]
  methods := #[k11m0, k11m1, k11m2, k11m3, k11m4, k11m5, k11m6, k11m7, k11m8, k11m9, k11m10, k11m11, k11m12]
  instanceTypes := #[(.array (.object "java/lang/Object")), .int, .int]
  staticTypes := #[.int, .long]
  resolved := Array.replicate 438 none
  statics := none }

def pool12 : Array CpInfo := pool [(1, .methodref 2 3), (0, .class_ 4), (0, .nameAndType 5 6), (0, u "java/lang/Object"), (0, u "<init>"), (0, u "()V"), (0, .class_ 8), (0, u "java/lang/Record")] 13

def k12c0 : Code := { maxStack := 1, maxLocals := 1, code := jdk_30_method_1_code, exceptionTable := #[], attributes := #[] }
def k12m0 : Method := { name := "<init>", desc := "()V", sig := { parameters := [], returnType := none }, accessFlags := 4, code := some k12c0 }
/-- java/lang/Record -/
def k12 : Class := { plain "java/lang/Record" (some 0) with
  accessFlags := 1057
  interfaces := #[]
  cf := some (fileOf pool12 7 #[] #[{ accessFlags := 4, nameIndex := 5, descriptorIndex := 6, attributes := #[] }] 1057 2 #[] #[])
  fields := #[]
  methods := #[k12m0]
  instanceTypes := #[]
  staticTypes := #[]
  resolved := Array.replicate 22 none
  statics := none }

def pool13 : Array CpInfo := pool [(1, .methodref 2 3), (0, .class_ 4), (0, .nameAndType 5 6), (0, u "java/lang/Record"), (0, u "<init>"), (0, u "()V"), (0, .fieldref 8 9), (0, .class_ 10), (0, .nameAndType 11 12), (0, u "com/example/adaptive_mirror/adaptivemirror/net/InFlight$Flush"), (0, u "end"), (0, u "J"), (0, .fieldref 8 14), (0, .nameAndType 15 12), (0, u "at"), (12, u "(JJ)V"), (6, u "()J"), (3, .class_ 40), (0, u "com/example/adaptive_mirror/adaptivemirror/net/InFlight")] 20

def k13c0 : Code := { maxStack := 3, maxLocals := 5, code := prog_90_method_1_code, exceptionTable := #[], attributes := #[] }
def k13m0 : Method := { name := "<init>", desc := "(JJ)V", sig := { parameters := [.long, .long], returnType := none }, accessFlags := 2, code := some k13c0 }
def k13c1 : Code := { maxStack := 2, maxLocals := 1, code := prog_90_method_5_code, exceptionTable := #[], attributes := #[] }
def k13m1 : Method := { name := "end", desc := "()J", sig := { parameters := [], returnType := some .long }, accessFlags := 1, code := some k13c1 }
def k13c2 : Code := { maxStack := 2, maxLocals := 1, code := prog_90_method_6_code, exceptionTable := #[], attributes := #[] }
def k13m2 : Method := { name := "at", desc := "()J", sig := { parameters := [], returnType := some .long }, accessFlags := 1, code := some k13c2 }
/-- com/example/adaptive_mirror/adaptivemirror/net/InFlight$Flush -/
def k13 : Class := { plain "com/example/adaptive_mirror/adaptivemirror/net/InFlight$Flush" (some 12) with
  accessFlags := 48
  interfaces := #[]
  cf := some (fileOf pool13 8 #[.nestHost 39] #[{ accessFlags := 2, nameIndex := 5, descriptorIndex := 28, attributes := #[] }, { accessFlags := 1, nameIndex := 11, descriptorIndex := 35, attributes := #[] }, { accessFlags := 1, nameIndex := 15, descriptorIndex := 35, attributes := #[] }] 48 2 #[] #[{ accessFlags := 18, nameIndex := 11, descriptorIndex := 12, attributes := #[] }, { accessFlags := 18, nameIndex := 15, descriptorIndex := 12, attributes := #[] }])
  fields := #[{ name := "end", type := .long, accessFlags := 18, slot := 0, constantValue := 0 }, { name := "at", type := .long, accessFlags := 18, slot := 1, constantValue := 0 }]
  methods := #[k13m0, k13m1, k13m2]
  instanceTypes := #[.long, .long]
  staticTypes := #[]
  resolved := Array.replicate 61 none
  statics := none }

def pool14 : Array CpInfo := pool [(1, .methodref 2 3), (0, .class_ 4), (0, .nameAndType 5 6), (0, u "java/lang/Record"), (0, u "<init>"), (0, u "()V"), (0, .fieldref 8 9), (0, .class_ 10), (0, .nameAndType 11 12), (0, u "com/example/adaptive_mirror/adaptivemirror/net/InFlight$Frame"), (0, u "end"), (0, u "J"), (0, .fieldref 8 14), (0, .nameAndType 15 12), (0, u "began"), (0, .fieldref 8 17), (0, .nameAndType 18 12), (0, u "acknowledgedThen"), (0, .fieldref 8 20), (0, .nameAndType 21 12), (0, u "limitThen"), (12, u "(JJJJ)V"), (6, u "()J"), (3, .class_ 46), (0, u "com/example/adaptive_mirror/adaptivemirror/net/InFlight")] 22

def k14c0 : Code := { maxStack := 3, maxLocals := 9, code := prog_91_method_1_code, exceptionTable := #[], attributes := #[] }
def k14m0 : Method := { name := "<init>", desc := "(JJJJ)V", sig := { parameters := [.long, .long, .long, .long], returnType := none }, accessFlags := 2, code := some k14c0 }
def k14c1 : Code := { maxStack := 2, maxLocals := 1, code := prog_91_method_5_code, exceptionTable := #[], attributes := #[] }
def k14m1 : Method := { name := "end", desc := "()J", sig := { parameters := [], returnType := some .long }, accessFlags := 1, code := some k14c1 }
def k14c2 : Code := { maxStack := 2, maxLocals := 1, code := prog_91_method_6_code, exceptionTable := #[], attributes := #[] }
def k14m2 : Method := { name := "began", desc := "()J", sig := { parameters := [], returnType := some .long }, accessFlags := 1, code := some k14c2 }
def k14c3 : Code := { maxStack := 2, maxLocals := 1, code := prog_91_method_7_code, exceptionTable := #[], attributes := #[] }
def k14m3 : Method := { name := "acknowledgedThen", desc := "()J", sig := { parameters := [], returnType := some .long }, accessFlags := 1, code := some k14c3 }
def k14c4 : Code := { maxStack := 2, maxLocals := 1, code := prog_91_method_8_code, exceptionTable := #[], attributes := #[] }
def k14m4 : Method := { name := "limitThen", desc := "()J", sig := { parameters := [], returnType := some .long }, accessFlags := 1, code := some k14c4 }
/-- com/example/adaptive_mirror/adaptivemirror/net/InFlight$Frame -/
def k14 : Class := { plain "com/example/adaptive_mirror/adaptivemirror/net/InFlight$Frame" (some 12) with
  accessFlags := 48
  interfaces := #[]
  cf := some (fileOf pool14 8 #[.nestHost 45] #[{ accessFlags := 2, nameIndex := 5, descriptorIndex := 34, attributes := #[] }, { accessFlags := 1, nameIndex := 11, descriptorIndex := 41, attributes := #[] }, { accessFlags := 1, nameIndex := 15, descriptorIndex := 41, attributes := #[] }, { accessFlags := 1, nameIndex := 18, descriptorIndex := 41, attributes := #[] }, { accessFlags := 1, nameIndex := 21, descriptorIndex := 41, attributes := #[] }] 48 2 #[] #[{ accessFlags := 18, nameIndex := 11, descriptorIndex := 12, attributes := #[] }, { accessFlags := 18, nameIndex := 15, descriptorIndex := 12, attributes := #[] }, { accessFlags := 18, nameIndex := 18, descriptorIndex := 12, attributes := #[] }, { accessFlags := 18, nameIndex := 21, descriptorIndex := 12, attributes := #[] }])
  fields := #[{ name := "end", type := .long, accessFlags := 18, slot := 0, constantValue := 0 }, { name := "began", type := .long, accessFlags := 18, slot := 1, constantValue := 0 }, { name := "acknowledgedThen", type := .long, accessFlags := 18, slot := 2, constantValue := 0 }, { name := "limitThen", type := .long, accessFlags := 18, slot := 3, constantValue := 0 }]
  methods := #[k14m0, k14m1, k14m2, k14m3, k14m4]
  instanceTypes := #[.long, .long, .long, .long]
  staticTypes := #[]
  resolved := Array.replicate 69 none
  statics := none }

def pool15 : Array CpInfo := pool [(1, .class_ 2), (0, u "java/lang/Math"), (1, .class_ 6), (1, u "java/lang/Object"), (0, u "<init>"), (0, u "()V"), (89, .class_ 100), (1, u "java/lang/Math$RandomNumberGeneratorHolder"), (20, u "(JJ)J"), (50, u "negativeZeroFloatBits"), (0, u "J"), (2, u "negativeZeroDoubleBits"), (21, u "max"), (2, u "min"), (43, u "$assertionsDisabled"), (0, u "Z"), (88, u "(II)I"), (2, u "twoToTheDoubleScaleDown"), (0, u "D"), (4, u "twoToTheDoubleScaleUp"), (9, u "E"), (3, u "PI"), (2, u "TAU"), (2, u "DEGREES_TO_RADIANS"), (0, u "RADIANS_TO_DEGREES")] 94

def k15m0 : Method := { name := "<init>", desc := "()V", sig := { parameters := [], returnType := none }, accessFlags := 2, code := none }
def k15c1 : Code := { maxStack := 4, maxLocals := 4, code := jdk_29_method_66_code, exceptionTable := #[], attributes := #[] }
def k15m1 : Method := { name := "max", desc := "(JJ)J", sig := { parameters := [.long, .long], returnType := some .long }, accessFlags := 9, code := some k15c1 }
def k15c2 : Code := { maxStack := 2, maxLocals := 2, code := jdk_29_method_69_code, exceptionTable := #[], attributes := #[] }
def k15m2 : Method := { name := "min", desc := "(II)I", sig := { parameters := [.int, .int], returnType := some .int }, accessFlags := 9, code := some k15c2 }
def k15c3 : Code := { maxStack := 4, maxLocals := 4, code := jdk_29_method_70_code, exceptionTable := #[], attributes := #[] }
def k15m3 : Method := { name := "min", desc := "(JJ)J", sig := { parameters := [.long, .long], returnType := some .long }, accessFlags := 9, code := some k15c3 }
/-- java/lang/Math -/
def k15 : Class := { plain "java/lang/Math" (some 0) with
  accessFlags := 49
  interfaces := #[]
  cf := some (fileOf pool15 1 #[.nestMembers #[98]] #[{ accessFlags := 2, nameIndex := 7, descriptorIndex := 8, attributes := #[] }, { accessFlags := 9, nameIndex := 198, descriptorIndex := 121, attributes := #[] }, { accessFlags := 9, nameIndex := 201, descriptorIndex := 335, attributes := #[] }, { accessFlags := 9, nameIndex := 201, descriptorIndex := 121, attributes := #[] }] 49 4 #[] #[{ accessFlags := 25, nameIndex := 354, descriptorIndex := 339, attributes := #[] }, { accessFlags := 25, nameIndex := 358, descriptorIndex := 339, attributes := #[] }, { accessFlags := 25, nameIndex := 361, descriptorIndex := 339, attributes := #[] }, { accessFlags := 26, nameIndex := 364, descriptorIndex := 339, attributes := #[] }, { accessFlags := 26, nameIndex := 365, descriptorIndex := 339, attributes := #[] }, { accessFlags := 26, nameIndex := 172, descriptorIndex := 173, attributes := #[] }, { accessFlags := 26, nameIndex := 176, descriptorIndex := 173, attributes := #[] }, { accessFlags := 8, nameIndex := 344, descriptorIndex := 339, attributes := #[] }, { accessFlags := 8, nameIndex := 338, descriptorIndex := 339, attributes := #[] }, { accessFlags := 4120, nameIndex := 245, descriptorIndex := 246, attributes := #[] }])
  fields := #[{ name := "E", type := .double, accessFlags := 25, slot := 0, constantValue := 0 }, { name := "PI", type := .double, accessFlags := 25, slot := 1, constantValue := 0 }, { name := "TAU", type := .double, accessFlags := 25, slot := 2, constantValue := 0 }, { name := "DEGREES_TO_RADIANS", type := .double, accessFlags := 26, slot := 3, constantValue := 0 }, { name := "RADIANS_TO_DEGREES", type := .double, accessFlags := 26, slot := 4, constantValue := 0 }, { name := "negativeZeroFloatBits", type := .long, accessFlags := 26, slot := 5, constantValue := 0 }, { name := "negativeZeroDoubleBits", type := .long, accessFlags := 26, slot := 6, constantValue := 0 }, { name := "twoToTheDoubleScaleUp", type := .double, accessFlags := 8, slot := 7, constantValue := 0 }, { name := "twoToTheDoubleScaleDown", type := .double, accessFlags := 8, slot := 8, constantValue := 0 }, { name := "$assertionsDisabled", type := .boolean, accessFlags := 4120, slot := 9, constantValue := 0 }]
  methods := #[k15m0, k15m1, k15m2, k15m3]
  instanceTypes := #[]
  staticTypes := #[.double, .double, .double, .double, .double, .long, .long, .double, .double, .boolean]
  resolved := Array.replicate 460 none
  statics := none }

def pool16 : Array CpInfo := pool [(2, .class_ 4), (1, u "java/lang/Object"), (0, u "<init>"), (0, u "()V"), (7, .class_ 16), (1, u "java/util/Arrays"), (57, .class_ 76), (1, u "java/util/Arrays$NaturalOrder"), (9, .methodref 2 87), (0, .nameAndType 88 89), (0, u "getClass"), (0, u "()Ljava/lang/Class;"), (20, .class_ 111), (0, u "[Ljava/lang/Object;"), (1, .class_ 115), (1, u "java/util/Arrays$LegacyMergeSort"), (1, u "Z"), (32, .methodref 151 152), (0, .class_ 153), (0, .nameAndType 154 155), (0, u "java/lang/System"), (0, u "arraycopy"), (0, u "(Ljava/lang/Object;ILjava/lang/Object;II)V"), (144, .methodref 14 301), (0, .nameAndType 302 303), (0, u "copyOf"), (0, u "([Ljava/lang/Object;ILjava/lang/Class;)[Ljava/lang/Object;"), (0, .methodref 305 306), (0, .class_ 307), (0, .nameAndType 308 309), (0, u "java/lang/Math"), (0, u "min"), (0, u "(II)I"), (65, .class_ 376), (0, u "java/util/Arrays$ArrayList"), (68, u "$assertionsDisabled"), (269, u "MIN_ARRAY_SORT_GRAN"), (0, u "I"), (2, u "INSERTIONSORT_THRESHOLD"), (140, u "([Ljava/lang/Object;I)[Ljava/lang/Object;"), (114, .class_ 976), (0, u "java/util/Arrays$ArrayItr")] 52

def k16m0 : Method := { name := "<init>", desc := "()V", sig := { parameters := [], returnType := none }, accessFlags := 2, code := none }
def k16c1 : Code := { maxStack := 3, maxLocals := 2, code := jdk_65_method_119_code, exceptionTable := #[], attributes := #[] }
def k16m1 : Method := { name := "copyOf", desc := "([Ljava/lang/Object;I)[Ljava/lang/Object;", sig := { parameters := [(.array (.object "java/lang/Object")), .int], returnType := some (.array (.object "java/lang/Object")) }, accessFlags := 9, code := some k16c1 }
def k16c2 : Code := { maxStack := 6, maxLocals := 4, code := jdk_65_method_120_code, exceptionTable := #[], attributes := #[] }
def k16m2 : Method := { name := "copyOf", desc := "([Ljava/lang/Object;ILjava/lang/Class;)[Ljava/lang/Object;", sig := { parameters := [(.array (.object "java/lang/Object")), .int, (.object "java/lang/Class")], returnType := some (.array (.object "java/lang/Object")) }, accessFlags := 9, code := some k16c2 }
/-- java/util/Arrays -/
def k16 : Class := { plain "java/util/Arrays" (some 0) with
  accessFlags := 49
  interfaces := #[]
  cf := some (fileOf pool16 14 #[.nestMembers #[975, 375, 113, 74]] #[{ accessFlags := 2, nameIndex := 5, descriptorIndex := 6, attributes := #[] }, { accessFlags := 9, nameIndex := 302, descriptorIndex := 860, attributes := #[] }, { accessFlags := 9, nameIndex := 302, descriptorIndex := 303, attributes := #[] }] 49 2 #[] #[{ accessFlags := 26, nameIndex := 715, descriptorIndex := 716, attributes := #[] }, { accessFlags := 26, nameIndex := 719, descriptorIndex := 716, attributes := #[] }, { accessFlags := 4120, nameIndex := 445, descriptorIndex := 117, attributes := #[] }])
  fields := #[{ name := "MIN_ARRAY_SORT_GRAN", type := .int, accessFlags := 26, slot := 0, constantValue := 0 }, { name := "INSERTIONSORT_THRESHOLD", type := .int, accessFlags := 26, slot := 1, constantValue := 0 }, { name := "$assertionsDisabled", type := .boolean, accessFlags := 4120, slot := 2, constantValue := 0 }]
  methods := #[k16m0, k16m1, k16m2]
  instanceTypes := #[]
  staticTypes := #[.int, .int, .boolean]
  resolved := Array.replicate 1029 none
  statics := none }

def pool17 : Array CpInfo := pool [(2, .class_ 4), (1, u "java/lang/Object"), (0, u "<init>"), (0, u "()V"), (1, .class_ 10), (1, u "java/lang/System"), (0, u "allowSecurityManager"), (0, u "I"), (16, u "cons"), (0, u "Ljava/io/Console;"), (77, .class_ 110), (1, u "java/lang/System$CallersHolder"), (43, u "initialErrStream"), (0, u "Ljava/io/PrintStream;"), (19, u "security"), (0, u "Ljava/lang/SecurityManager;"), (31, .class_ 209), (0, u "java/lang/System$1"), (7, u "props"), (0, u "Ljava/util/Properties;"), (2, u "lineSeparator"), (0, u "Ljava/lang/String;"), (96, .class_ 321), (1, u "java/lang/System$LoggerFinder"), (5, .class_ 328), (0, u "java/lang/System$Logger"), (67, u "err"), (2, u "out"), (91, u "notSupportedJnuEncoding"), (15, u "in"), (17, u "initialIn"), (0, u "Ljava/io/InputStream;"), (35, u "bootLayer"), (0, u "Ljava/lang/ModuleLayer;"), (99, .class_ 664), (0, u "java/lang/System$2"), (9, u "NEVER"), (2, u "MAYBE"), (49, u "arraycopy"), (0, u "(Ljava/lang/Object;ILjava/lang/Object;II)V"), (72, .class_ 802), (0, u "java/lang/System$Logger$Level")] 31

def k17m0 : Method := { name := "<init>", desc := "()V", sig := { parameters := [], returnType := none }, accessFlags := 2, code := none }
def k17m1 : Method := { name := "arraycopy", desc := "(Ljava/lang/Object;ILjava/lang/Object;II)V", sig := { parameters := [(.object "java/lang/Object"), .int, (.object "java/lang/Object"), .int, .int], returnType := none }, accessFlags := 265, code := none }
/-- java/lang/System -/
def k17 : Class := { plain "java/lang/System" (some 0) with
  accessFlags := 49
  interfaces := #[]
  cf := some (fileOf pool17 8 #[.nestMembers #[319, 327, 801, 108, 663, 208]] #[{ accessFlags := 2, nameIndex := 5, descriptorIndex := 6, attributes := #[] }, { accessFlags := 265, nameIndex := 727, descriptorIndex := 728, attributes := #[] }] 49 2 #[] #[{ accessFlags := 25, nameIndex := 507, descriptorIndex := 526, attributes := #[] }, { accessFlags := 25, nameIndex := 399, descriptorIndex := 155, attributes := #[] }, { accessFlags := 25, nameIndex := 396, descriptorIndex := 155, attributes := #[] }, { accessFlags := 10, nameIndex := 525, descriptorIndex := 526, attributes := #[] }, { accessFlags := 26, nameIndex := 674, descriptorIndex := 12, attributes := #[] }, { accessFlags := 26, nameIndex := 677, descriptorIndex := 12, attributes := #[] }, { accessFlags := 10, nameIndex := 11, descriptorIndex := 12, attributes := #[] }, { accessFlags := 74, nameIndex := 175, descriptorIndex := 176, attributes := #[] }, { accessFlags := 10, nameIndex := 491, descriptorIndex := 222, attributes := #[] }, { accessFlags := 74, nameIndex := 29, descriptorIndex := 30, attributes := #[] }, { accessFlags := 74, nameIndex := 154, descriptorIndex := 155, attributes := #[] }, { accessFlags := 10, nameIndex := 217, descriptorIndex := 218, attributes := #[] }, { accessFlags := 10, nameIndex := 221, descriptorIndex := 222, attributes := #[] }, { accessFlags := 8, nameIndex := 562, descriptorIndex := 563, attributes := #[] }])
  fields := #[{ name := "in", type := (.object "java/io/InputStream"), accessFlags := 25, slot := 0, constantValue := 0 }, { name := "out", type := (.object "java/io/PrintStream"), accessFlags := 25, slot := 1, constantValue := 0 }, { name := "err", type := (.object "java/io/PrintStream"), accessFlags := 25, slot := 2, constantValue := 0 }, { name := "initialIn", type := (.object "java/io/InputStream"), accessFlags := 10, slot := 3, constantValue := 0 }, { name := "NEVER", type := .int, accessFlags := 26, slot := 4, constantValue := 0 }, { name := "MAYBE", type := .int, accessFlags := 26, slot := 5, constantValue := 0 }, { name := "allowSecurityManager", type := .int, accessFlags := 10, slot := 6, constantValue := 0 }, { name := "security", type := (.object "java/lang/SecurityManager"), accessFlags := 74, slot := 7, constantValue := 0 }, { name := "notSupportedJnuEncoding", type := (.object "java/lang/String"), accessFlags := 10, slot := 8, constantValue := 0 }, { name := "cons", type := (.object "java/io/Console"), accessFlags := 74, slot := 9, constantValue := 0 }, { name := "initialErrStream", type := (.object "java/io/PrintStream"), accessFlags := 74, slot := 10, constantValue := 0 }, { name := "props", type := (.object "java/util/Properties"), accessFlags := 10, slot := 11, constantValue := 0 }, { name := "lineSeparator", type := (.object "java/lang/String"), accessFlags := 10, slot := 12, constantValue := 0 }, { name := "bootLayer", type := (.object "java/lang/ModuleLayer"), accessFlags := 8, slot := 13, constantValue := 0 }]
  methods := #[k17m0, k17m1]
  instanceTypes := #[]
  staticTypes := #[(.object "java/io/InputStream"), (.object "java/io/PrintStream"), (.object "java/io/PrintStream"), (.object "java/io/InputStream"), .int, .int, .int, (.object "java/lang/SecurityManager"), (.object "java/lang/String"), (.object "java/io/Console"), (.object "java/io/PrintStream"), (.object "java/util/Properties"), (.object "java/lang/String"), (.object "java/lang/ModuleLayer")]
  resolved := Array.replicate 834 none
  statics := none }

def pool18 : Array CpInfo := pool [(1, u "java/lang/Class"), (0, .class_ 1), (0, u "java/lang/Object"), (0, .class_ 3)] 3

/-- java/lang/Class -/
def k18 : Class := { plain "java/lang/Class" (some 0) with
  accessFlags := 49
  interfaces := #[]
  cf := some (fileOf pool18 2 #[] #[] 49 4 #[] #[])
  fields := #[]
  methods := #[]
  instanceTypes := #[]
  staticTypes := #[]
  resolved := Array.replicate 8 none
  statics := none }

/-- the primitive byte -/
def k19 : Class := { plain "byte" none with kind := .primitive 'B', accessFlags := 0x411 }
/-- [B -/
def k20 : Class := { plain "[B" (some 0) with kind := .array 19 .byte, interfaces := #[9, 10], accessFlags := 1041 }

/-- [Ljava/lang/Object; -/
def k21 : Class := { plain "[Ljava/lang/Object;" (some 0) with kind := .array 0 (.object "java/lang/Object"), interfaces := #[9, 10], accessFlags := 1041, mirror := some 0 }

def heap : Heap := #[{ cls := 18, slots := #[], vm := .mirror 21 }]
def classes : Array Class := #[k0, k1, k2, k3, k4, k5, k6, k7, k8, k9, k10, k11, k12, k13, k14, k15, k16, k17, k18, k19, k20, k21]
def interned : List (Array UInt16 × Addr) := []
def slotsUsed : Nat := 0
def theMethod : MethodId := ⟨1, 1⟩
def args0 : Array Value := #[.long 5, .long 5, .long 5, .long 5, .long 5, .int 1]
def aboutOver (below : List Frame) : State where
  vm := { classes := classes, interned := interned.toArray }
  heap := heap
  slotsUsed := slotsUsed
  threads := #[{ frames := .invoking theMethod args0 :: below }]
def below0 : List Frame := [.native { method := ⟨0, 0⟩, args := #[] }]
def about1 : State := aboutOver below0
def p0 : Program := .bare "" "" ""
def e0 : Env := launch0.env 0 0 0
theorem w_frames : about1.frames = Frame.invoking theMethod args0 :: below0 := rfl
set_option maxRecDepth 65536 in
theorem w_args : argsFit about1.vm theMethod args0 = true := by decide +kernel
set_option maxRecDepth 65536 in
theorem w_heap : heapFits about1 = true := by decide +kernel
set_option maxRecDepth 65536 in
theorem w_runnable : about1.curStatus? = some .runnable := by decide +kernel
set_option maxRecDepth 65536 in
theorem w_alone : about1.alone = true := by decide +kernel
set_option maxRecDepth 65536 in
theorem w_named : about1.methodNamed? x = some theMethod := by decide +kernel
set_option maxRecDepth 65536 in
theorem w_hears : about1.hears theMethod below0 = true := by decide +kernel
set_option maxRecDepth 65536 in
theorem w_ripe : about1.ripe theMethod args0 below0 = true := by decide +kernel
theorem w_running : about1.status = .running := rfl
set_option maxRecDepth 65536 in
theorem w_room : about1.hasRoom e0.platform room_1 = true :=
  launch0.hasRoom_least _ room_1 (by decide +kernel) (by decide +kernel) (by decide +kernel) (by decide +kernel) (by decide +kernel) (by decide +kernel)
theorem allAtoms_all (ts : List Jvm.Cond) (a : Array Jvm.Value) (st : Jvm.State) : (allAtoms ts).before a st = ts.all (fun c => c.before a st) := by
  induction ts with
  | nil => rfl
  | cons c t ih =>
    show (Jvm.Cond.and c (allAtoms t)).before a st = _
    rw [Jvm.Cond.before_and, ih, List.all_cons]
def words1 : List Jvm.Cond := Jvm.Cond.code x code maxLocals ret :: tables_1
/-- a 'code' word, met by the world's own term for the bytes: nothing is compared byte by byte -/
theorem code_word {y : MethodName} {bytes : ByteArray} {mx : Nat} {rt : Option FieldType} {a : Array Value} {s : State} {m : MethodId} {meth : Method} {c : Code} (h1 : s.methodNamed? y = some m) (h2 : s.vm.method? m = some meth) (h3 : meth.code = some c) (h4 : c.code = bytes)
    (h5 : (c.maxLocals == mx && c.exceptionTable.isEmpty && decide (c.maxStack ≤ mostOperands) && decide (meth.sig.returnType = rt) && !meth.locks && decide (parseMethodDescriptor y.desc = some meth.sig)) = true) : (Jvm.Cond.code y bytes mx rt).before a s = true := by
  simp only [Bool.and_eq_true, beq_iff_eq, Bool.not_eq_true', decide_eq_true_eq] at h5
  obtain ⟨⟨⟨⟨⟨g1, g2⟩, g3⟩, g4⟩, g5⟩, g6⟩ := h5
  simp [Cond.before, Cond.holds, Cond.value, h1, h2, h3, h4, g1, g2, g3, g4, g5, g6]
def isCode : Jvm.Cond → Bool
  | .code _ _ _ _ => true
  | _ => false
theorem all_split {L : List Jvm.Cond} {P : Jvm.Cond → Bool} (h1 : L.all (fun c => isCode c || P c) = true) (h2 : ∀ c ∈ L.filter isCode, P c = true) : L.all P = true := by
  refine List.all_eq_true.mpr fun c hc => ?_
  have h := List.all_eq_true.mp h1 c hc
  rcases Bool.eq_false_or_eq_true (isCode c) with hi | hi
  · exact h2 c (List.mem_filter.mpr ⟨hc, hi⟩)
  · simpa [hi] using h
set_option maxRecDepth 65536 in
theorem w_c0 : (Jvm.Cond.code x code maxLocals ret).before args0 about1 = true := code_word (m := ⟨1, 1⟩) (meth := k1m1) (c := k1c1) (by decide +kernel) rfl rfl rfl (by decide +kernel)
set_option maxRecDepth 65536 in
theorem w_c1 : (Jvm.Cond.code ({ cls := "com/example/adaptive_mirror/adaptivemirror/net/InFlight", name := "<init>", desc := "(JJ)V" } : Jvm.MethodName) prog_89_method_1_code (5 : Nat) (Option.none : Option Jvm.ClassFile.FieldType)).before args0 about1 = true := code_word (m := ⟨2, 0⟩) (meth := k2m0) (c := k2c0) (by decide +kernel) rfl rfl rfl (by decide +kernel)
set_option maxRecDepth 65536 in
theorem w_c2 : (Jvm.Cond.code ({ cls := "java/lang/Object", name := "<init>", desc := "()V" } : Jvm.MethodName) object_method_1_code (1 : Nat) (Option.none : Option Jvm.ClassFile.FieldType)).before args0 about1 = true := code_word (m := ⟨0, 0⟩) (meth := k0m0) (c := k0c0) (by decide +kernel) rfl rfl rfl (by decide +kernel)
set_option maxRecDepth 65536 in
theorem w_c3 : (Jvm.Cond.code ({ cls := "java/util/ArrayDeque", name := "<init>", desc := "(I)V" } : Jvm.MethodName) jdk_21_method_4_code (2 : Nat) (Option.none : Option Jvm.ClassFile.FieldType)).before args0 about1 = true := code_word (m := ⟨11, 2⟩) (meth := k11m2) (c := k11c2) (by decide +kernel) rfl rfl rfl (by decide +kernel)
set_option maxRecDepth 65536 in
theorem w_c4 : (Jvm.Cond.code ({ cls := "java/util/AbstractCollection", name := "<init>", desc := "()V" } : Jvm.MethodName) jdk_22_method_1_code (1 : Nat) (Option.none : Option Jvm.ClassFile.FieldType)).before args0 about1 = true := code_word (m := ⟨5, 0⟩) (meth := k5m0) (c := k5c0) (by decide +kernel) rfl rfl rfl (by decide +kernel)
set_option maxRecDepth 65536 in
theorem w_c5 : (Jvm.Cond.code ({ cls := "com/example/adaptive_mirror/adaptivemirror/net/InFlight$Flush", name := "<init>", desc := "(JJ)V" } : Jvm.MethodName) prog_90_method_1_code (5 : Nat) (Option.none : Option Jvm.ClassFile.FieldType)).before args0 about1 = true := code_word (m := ⟨13, 0⟩) (meth := k13m0) (c := k13c0) (by decide +kernel) rfl rfl rfl (by decide +kernel)
set_option maxRecDepth 65536 in
theorem w_c6 : (Jvm.Cond.code ({ cls := "java/lang/Record", name := "<init>", desc := "()V" } : Jvm.MethodName) jdk_30_method_1_code (1 : Nat) (Option.none : Option Jvm.ClassFile.FieldType)).before args0 about1 = true := code_word (m := ⟨12, 0⟩) (meth := k12m0) (c := k12c0) (by decide +kernel) rfl rfl rfl (by decide +kernel)
set_option maxRecDepth 65536 in
theorem w_c7 : (Jvm.Cond.code ({ cls := "java/util/ArrayDeque", name := "add", desc := "(Ljava/lang/Object;)Z" } : Jvm.MethodName) jdk_21_method_28_code (2 : Nat) (Option.some Jvm.ClassFile.FieldType.boolean)).before args0 about1 = true := code_word (m := ⟨11, 9⟩) (meth := k11m9) (c := k11c9) (by decide +kernel) rfl rfl rfl (by decide +kernel)
set_option maxRecDepth 65536 in
theorem w_c8 : (Jvm.Cond.code ({ cls := "java/util/ArrayDeque", name := "addLast", desc := "(Ljava/lang/Object;)V" } : Jvm.MethodName) jdk_21_method_13_code (3 : Nat) (Option.none : Option Jvm.ClassFile.FieldType)).before args0 about1 = true := code_word (m := ⟨11, 5⟩) (meth := k11m5) (c := k11c5) (by decide +kernel) rfl rfl rfl (by decide +kernel)
set_option maxRecDepth 65536 in
theorem w_c9 : (Jvm.Cond.code ({ cls := "java/util/ArrayDeque", name := "inc", desc := "(II)I" } : Jvm.MethodName) jdk_21_method_6_code (2 : Nat) (Option.some Jvm.ClassFile.FieldType.int)).before args0 about1 = true := code_word (m := ⟨11, 3⟩) (meth := k11m3) (c := k11c3) (by decide +kernel) rfl rfl rfl (by decide +kernel)
set_option maxRecDepth 65536 in
theorem w_c10 : (Jvm.Cond.code ({ cls := "com/example/adaptive_mirror/adaptivemirror/net/InFlight", name := "isEmpty", desc := "()Z" } : Jvm.MethodName) prog_89_method_2_code (1 : Nat) (Option.some Jvm.ClassFile.FieldType.boolean)).before args0 about1 = true := code_word (m := ⟨2, 1⟩) (meth := k2m1) (c := k2c1) (by decide +kernel) rfl rfl rfl (by decide +kernel)
set_option maxRecDepth 65536 in
theorem w_c11 : (Jvm.Cond.code ({ cls := "com/example/adaptive_mirror/adaptivemirror/net/InFlight", name := "written", desc := "(JJ)J" } : Jvm.MethodName) prog_89_method_6_code (7 : Nat) (Option.some Jvm.ClassFile.FieldType.long)).before args0 about1 = true := code_word (m := ⟨2, 3⟩) (meth := k2m3) (c := k2c3) (by decide +kernel) rfl rfl rfl (by decide +kernel)
set_option maxRecDepth 65536 in
theorem w_c12 : (Jvm.Cond.code ({ cls := "com/example/adaptive_mirror/adaptivemirror/net/InFlight", name := "limit", desc := "()J" } : Jvm.MethodName) prog_89_method_5_code (1 : Nat) (Option.some Jvm.ClassFile.FieldType.long)).before args0 about1 = true := code_word (m := ⟨2, 2⟩) (meth := k2m2) (c := k2c2) (by decide +kernel) rfl rfl rfl (by decide +kernel)
set_option maxRecDepth 65536 in
theorem w_c13 : (Jvm.Cond.code ({ cls := "java/lang/Math", name := "max", desc := "(JJ)J" } : Jvm.MethodName) jdk_29_method_66_code (4 : Nat) (Option.some Jvm.ClassFile.FieldType.long)).before args0 about1 = true := code_word (m := ⟨15, 1⟩) (meth := k15m1) (c := k15c1) (by decide +kernel) rfl rfl rfl (by decide +kernel)
set_option maxRecDepth 65536 in
theorem w_c14 : (Jvm.Cond.code ({ cls := "com/example/adaptive_mirror/adaptivemirror/net/InFlight$Frame", name := "<init>", desc := "(JJJJ)V" } : Jvm.MethodName) prog_91_method_1_code (9 : Nat) (Option.none : Option Jvm.ClassFile.FieldType)).before args0 about1 = true := code_word (m := ⟨14, 0⟩) (meth := k14m0) (c := k14c0) (by decide +kernel) rfl rfl rfl (by decide +kernel)
set_option maxRecDepth 65536 in
theorem w_c15 : (Jvm.Cond.code ({ cls := "com/example/adaptive_mirror/adaptivemirror/net/InFlight", name := "acknowledged", desc := "(JJ)I" } : Jvm.MethodName) prog_89_method_8_code (6 : Nat) (Option.some Jvm.ClassFile.FieldType.int)).before args0 about1 = true := code_word (m := ⟨2, 4⟩) (meth := k2m4) (c := k2c4) (by decide +kernel) rfl rfl rfl (by decide +kernel)
set_option maxRecDepth 65536 in
theorem w_c16 : (Jvm.Cond.code ({ cls := "java/util/ArrayDeque", name := "isEmpty", desc := "()Z" } : Jvm.MethodName) jdk_21_method_38_code (1 : Nat) (Option.some Jvm.ClassFile.FieldType.boolean)).before args0 about1 = true := code_word (m := ⟨11, 12⟩) (meth := k11m12) (c := k11c12) (by decide +kernel) rfl rfl rfl (by decide +kernel)
set_option maxRecDepth 65536 in
theorem w_c17 : (Jvm.Cond.code ({ cls := "java/util/ArrayDeque", name := "peek", desc := "()Ljava/lang/Object;" } : Jvm.MethodName) jdk_21_method_33_code (1 : Nat) (Option.some (Jvm.ClassFile.FieldType.object "java/lang/Object"))).before args0 about1 = true := code_word (m := ⟨11, 11⟩) (meth := k11m11) (c := k11c11) (by decide +kernel) rfl rfl rfl (by decide +kernel)
set_option maxRecDepth 65536 in
theorem w_c18 : (Jvm.Cond.code ({ cls := "java/util/ArrayDeque", name := "peekFirst", desc := "()Ljava/lang/Object;" } : Jvm.MethodName) jdk_21_method_24_code (1 : Nat) (Option.some (Jvm.ClassFile.FieldType.object "java/lang/Object"))).before args0 about1 = true := code_word (m := ⟨11, 8⟩) (meth := k11m8) (c := k11c8) (by decide +kernel) rfl rfl rfl (by decide +kernel)
set_option maxRecDepth 65536 in
theorem w_c19 : (Jvm.Cond.code ({ cls := "java/util/ArrayDeque", name := "elementAt", desc := "([Ljava/lang/Object;I)Ljava/lang/Object;" } : Jvm.MethodName) jdk_21_method_10_code (2 : Nat) (Option.some (Jvm.ClassFile.FieldType.object "java/lang/Object"))).before args0 about1 = true := code_word (m := ⟨11, 4⟩) (meth := k11m4) (c := k11c4) (by decide +kernel) rfl rfl rfl (by decide +kernel)
set_option maxRecDepth 65536 in
theorem w_c20 : (Jvm.Cond.code ({ cls := "com/example/adaptive_mirror/adaptivemirror/net/InFlight$Flush", name := "end", desc := "()J" } : Jvm.MethodName) prog_90_method_5_code (1 : Nat) (Option.some Jvm.ClassFile.FieldType.long)).before args0 about1 = true := code_word (m := ⟨13, 1⟩) (meth := k13m1) (c := k13c1) (by decide +kernel) rfl rfl rfl (by decide +kernel)
set_option maxRecDepth 65536 in
theorem w_c21 : (Jvm.Cond.code ({ cls := "com/example/adaptive_mirror/adaptivemirror/net/InFlight$Frame", name := "end", desc := "()J" } : Jvm.MethodName) prog_91_method_5_code (1 : Nat) (Option.some Jvm.ClassFile.FieldType.long)).before args0 about1 = true := code_word (m := ⟨14, 1⟩) (meth := k14m1) (c := k14c1) (by decide +kernel) rfl rfl rfl (by decide +kernel)
set_option maxRecDepth 65536 in
theorem w_c22 : (Jvm.Cond.code ({ cls := "java/util/ArrayDeque", name := "grow", desc := "(I)V" } : Jvm.MethodName) jdk_21_method_1_code (9 : Nat) (Option.none : Option Jvm.ClassFile.FieldType)).before args0 about1 = true := code_word (m := ⟨11, 0⟩) (meth := k11m0) (c := k11c0) (by decide +kernel) rfl rfl rfl (by decide +kernel)
set_option maxRecDepth 65536 in
theorem w_c23 : (Jvm.Cond.code ({ cls := "java/util/Arrays", name := "copyOf", desc := "([Ljava/lang/Object;I)[Ljava/lang/Object;" } : Jvm.MethodName) jdk_65_method_119_code (2 : Nat) (Option.some (Jvm.ClassFile.FieldType.array (Jvm.ClassFile.FieldType.object "java/lang/Object")))).before args0 about1 = true := code_word (m := ⟨16, 1⟩) (meth := k16m1) (c := k16c1) (by decide +kernel) rfl rfl rfl (by decide +kernel)
set_option maxRecDepth 65536 in
theorem w_c24 : (Jvm.Cond.code ({ cls := "java/util/Arrays", name := "copyOf", desc := "([Ljava/lang/Object;ILjava/lang/Class;)[Ljava/lang/Object;" } : Jvm.MethodName) jdk_65_method_120_code (4 : Nat) (Option.some (Jvm.ClassFile.FieldType.array (Jvm.ClassFile.FieldType.object "java/lang/Object")))).before args0 about1 = true := code_word (m := ⟨16, 2⟩) (meth := k16m2) (c := k16c2) (by decide +kernel) rfl rfl rfl (by decide +kernel)
set_option maxRecDepth 65536 in
theorem w_c25 : (Jvm.Cond.code ({ cls := "java/lang/Math", name := "min", desc := "(II)I" } : Jvm.MethodName) jdk_29_method_69_code (2 : Nat) (Option.some Jvm.ClassFile.FieldType.int)).before args0 about1 = true := code_word (m := ⟨15, 2⟩) (meth := k15m2) (c := k15c2) (by decide +kernel) rfl rfl rfl (by decide +kernel)
set_option maxRecDepth 65536 in
theorem w_c26 : (Jvm.Cond.code ({ cls := "java/util/ArrayDeque", name := "remove", desc := "()Ljava/lang/Object;" } : Jvm.MethodName) jdk_21_method_30_code (1 : Nat) (Option.some (Jvm.ClassFile.FieldType.object "java/lang/Object"))).before args0 about1 = true := code_word (m := ⟨11, 10⟩) (meth := k11m10) (c := k11c10) (by decide +kernel) rfl rfl rfl (by decide +kernel)
set_option maxRecDepth 65536 in
theorem w_c27 : (Jvm.Cond.code ({ cls := "java/util/ArrayDeque", name := "removeFirst", desc := "()Ljava/lang/Object;" } : Jvm.MethodName) jdk_21_method_18_code (2 : Nat) (Option.some (Jvm.ClassFile.FieldType.object "java/lang/Object"))).before args0 about1 = true := code_word (m := ⟨11, 6⟩) (meth := k11m6) (c := k11c6) (by decide +kernel) rfl rfl rfl (by decide +kernel)
set_option maxRecDepth 65536 in
theorem w_c28 : (Jvm.Cond.code ({ cls := "java/util/ArrayDeque", name := "pollFirst", desc := "()Ljava/lang/Object;" } : Jvm.MethodName) jdk_21_method_20_code (4 : Nat) (Option.some (Jvm.ClassFile.FieldType.object "java/lang/Object"))).before args0 about1 = true := code_word (m := ⟨11, 7⟩) (meth := k11m7) (c := k11c7) (by decide +kernel) rfl rfl rfl (by decide +kernel)
set_option maxRecDepth 65536 in
theorem w_c29 : (Jvm.Cond.code ({ cls := "com/example/adaptive_mirror/adaptivemirror/net/InFlight$Flush", name := "at", desc := "()J" } : Jvm.MethodName) prog_90_method_6_code (1 : Nat) (Option.some Jvm.ClassFile.FieldType.long)).before args0 about1 = true := code_word (m := ⟨13, 2⟩) (meth := k13m2) (c := k13c2) (by decide +kernel) rfl rfl rfl (by decide +kernel)
set_option maxRecDepth 65536 in
theorem w_c30 : (Jvm.Cond.code ({ cls := "java/lang/Math", name := "min", desc := "(JJ)J" } : Jvm.MethodName) jdk_29_method_70_code (4 : Nat) (Option.some Jvm.ClassFile.FieldType.long)).before args0 about1 = true := code_word (m := ⟨15, 3⟩) (meth := k15m3) (c := k15c3) (by decide +kernel) rfl rfl rfl (by decide +kernel)
set_option maxRecDepth 65536 in
theorem w_c31 : (Jvm.Cond.code ({ cls := "com/example/adaptive_mirror/adaptivemirror/net/InFlight", name := "measure", desc := "(Lcom/example/adaptive_mirror/adaptivemirror/net/InFlight$Frame;J)V" } : Jvm.MethodName) prog_89_method_9_code (12 : Nat) (Option.none : Option Jvm.ClassFile.FieldType)).before args0 about1 = true := code_word (m := ⟨2, 5⟩) (meth := k2m5) (c := k2c5) (by decide +kernel) rfl rfl rfl (by decide +kernel)
set_option maxRecDepth 65536 in
theorem w_c32 : (Jvm.Cond.code ({ cls := "com/example/adaptive_mirror/adaptivemirror/net/InFlight$Frame", name := "began", desc := "()J" } : Jvm.MethodName) prog_91_method_6_code (1 : Nat) (Option.some Jvm.ClassFile.FieldType.long)).before args0 about1 = true := code_word (m := ⟨14, 2⟩) (meth := k14m2) (c := k14c2) (by decide +kernel) rfl rfl rfl (by decide +kernel)
set_option maxRecDepth 65536 in
theorem w_c33 : (Jvm.Cond.code ({ cls := "com/example/adaptive_mirror/adaptivemirror/net/InFlight$Frame", name := "acknowledgedThen", desc := "()J" } : Jvm.MethodName) prog_91_method_7_code (1 : Nat) (Option.some Jvm.ClassFile.FieldType.long)).before args0 about1 = true := code_word (m := ⟨14, 3⟩) (meth := k14m3) (c := k14c3) (by decide +kernel) rfl rfl rfl (by decide +kernel)
set_option maxRecDepth 65536 in
theorem w_c34 : (Jvm.Cond.code ({ cls := "com/example/adaptive_mirror/adaptivemirror/net/InFlight$Frame", name := "limitThen", desc := "()J" } : Jvm.MethodName) prog_91_method_8_code (1 : Nat) (Option.some Jvm.ClassFile.FieldType.long)).before args0 about1 = true := code_word (m := ⟨14, 4⟩) (meth := k14m4) (c := k14c4) (by decide +kernel) rfl rfl rfl (by decide +kernel)
def codes1 : List Jvm.Cond := [Jvm.Cond.code x code maxLocals ret, Jvm.Cond.code ({ cls := "com/example/adaptive_mirror/adaptivemirror/net/InFlight", name := "<init>", desc := "(JJ)V" } : Jvm.MethodName) prog_89_method_1_code (5 : Nat) (Option.none : Option Jvm.ClassFile.FieldType), Jvm.Cond.code ({ cls := "java/lang/Object", name := "<init>", desc := "()V" } : Jvm.MethodName) object_method_1_code (1 : Nat) (Option.none : Option Jvm.ClassFile.FieldType), Jvm.Cond.code ({ cls := "java/util/ArrayDeque", name := "<init>", desc := "(I)V" } : Jvm.MethodName) jdk_21_method_4_code (2 : Nat) (Option.none : Option Jvm.ClassFile.FieldType), Jvm.Cond.code ({ cls := "java/util/AbstractCollection", name := "<init>", desc := "()V" } : Jvm.MethodName) jdk_22_method_1_code (1 : Nat) (Option.none : Option Jvm.ClassFile.FieldType), Jvm.Cond.code ({ cls := "com/example/adaptive_mirror/adaptivemirror/net/InFlight$Flush", name := "<init>", desc := "(JJ)V" } : Jvm.MethodName) prog_90_method_1_code (5 : Nat) (Option.none : Option Jvm.ClassFile.FieldType), Jvm.Cond.code ({ cls := "java/lang/Record", name := "<init>", desc := "()V" } : Jvm.MethodName) jdk_30_method_1_code (1 : Nat) (Option.none : Option Jvm.ClassFile.FieldType), Jvm.Cond.code ({ cls := "java/util/ArrayDeque", name := "add", desc := "(Ljava/lang/Object;)Z" } : Jvm.MethodName) jdk_21_method_28_code (2 : Nat) (Option.some Jvm.ClassFile.FieldType.boolean), Jvm.Cond.code ({ cls := "java/util/ArrayDeque", name := "addLast", desc := "(Ljava/lang/Object;)V" } : Jvm.MethodName) jdk_21_method_13_code (3 : Nat) (Option.none : Option Jvm.ClassFile.FieldType), Jvm.Cond.code ({ cls := "java/util/ArrayDeque", name := "inc", desc := "(II)I" } : Jvm.MethodName) jdk_21_method_6_code (2 : Nat) (Option.some Jvm.ClassFile.FieldType.int), Jvm.Cond.code ({ cls := "com/example/adaptive_mirror/adaptivemirror/net/InFlight", name := "isEmpty", desc := "()Z" } : Jvm.MethodName) prog_89_method_2_code (1 : Nat) (Option.some Jvm.ClassFile.FieldType.boolean), Jvm.Cond.code ({ cls := "com/example/adaptive_mirror/adaptivemirror/net/InFlight", name := "written", desc := "(JJ)J" } : Jvm.MethodName) prog_89_method_6_code (7 : Nat) (Option.some Jvm.ClassFile.FieldType.long), Jvm.Cond.code ({ cls := "com/example/adaptive_mirror/adaptivemirror/net/InFlight", name := "limit", desc := "()J" } : Jvm.MethodName) prog_89_method_5_code (1 : Nat) (Option.some Jvm.ClassFile.FieldType.long), Jvm.Cond.code ({ cls := "java/lang/Math", name := "max", desc := "(JJ)J" } : Jvm.MethodName) jdk_29_method_66_code (4 : Nat) (Option.some Jvm.ClassFile.FieldType.long), Jvm.Cond.code ({ cls := "com/example/adaptive_mirror/adaptivemirror/net/InFlight$Frame", name := "<init>", desc := "(JJJJ)V" } : Jvm.MethodName) prog_91_method_1_code (9 : Nat) (Option.none : Option Jvm.ClassFile.FieldType), Jvm.Cond.code ({ cls := "com/example/adaptive_mirror/adaptivemirror/net/InFlight", name := "acknowledged", desc := "(JJ)I" } : Jvm.MethodName) prog_89_method_8_code (6 : Nat) (Option.some Jvm.ClassFile.FieldType.int), Jvm.Cond.code ({ cls := "java/util/ArrayDeque", name := "isEmpty", desc := "()Z" } : Jvm.MethodName) jdk_21_method_38_code (1 : Nat) (Option.some Jvm.ClassFile.FieldType.boolean), Jvm.Cond.code ({ cls := "java/util/ArrayDeque", name := "peek", desc := "()Ljava/lang/Object;" } : Jvm.MethodName) jdk_21_method_33_code (1 : Nat) (Option.some (Jvm.ClassFile.FieldType.object "java/lang/Object")), Jvm.Cond.code ({ cls := "java/util/ArrayDeque", name := "peekFirst", desc := "()Ljava/lang/Object;" } : Jvm.MethodName) jdk_21_method_24_code (1 : Nat) (Option.some (Jvm.ClassFile.FieldType.object "java/lang/Object")), Jvm.Cond.code ({ cls := "java/util/ArrayDeque", name := "elementAt", desc := "([Ljava/lang/Object;I)Ljava/lang/Object;" } : Jvm.MethodName) jdk_21_method_10_code (2 : Nat) (Option.some (Jvm.ClassFile.FieldType.object "java/lang/Object")), Jvm.Cond.code ({ cls := "com/example/adaptive_mirror/adaptivemirror/net/InFlight$Flush", name := "end", desc := "()J" } : Jvm.MethodName) prog_90_method_5_code (1 : Nat) (Option.some Jvm.ClassFile.FieldType.long), Jvm.Cond.code ({ cls := "com/example/adaptive_mirror/adaptivemirror/net/InFlight$Frame", name := "end", desc := "()J" } : Jvm.MethodName) prog_91_method_5_code (1 : Nat) (Option.some Jvm.ClassFile.FieldType.long), Jvm.Cond.code ({ cls := "java/util/ArrayDeque", name := "grow", desc := "(I)V" } : Jvm.MethodName) jdk_21_method_1_code (9 : Nat) (Option.none : Option Jvm.ClassFile.FieldType), Jvm.Cond.code ({ cls := "java/util/Arrays", name := "copyOf", desc := "([Ljava/lang/Object;I)[Ljava/lang/Object;" } : Jvm.MethodName) jdk_65_method_119_code (2 : Nat) (Option.some (Jvm.ClassFile.FieldType.array (Jvm.ClassFile.FieldType.object "java/lang/Object"))), Jvm.Cond.code ({ cls := "java/util/Arrays", name := "copyOf", desc := "([Ljava/lang/Object;ILjava/lang/Class;)[Ljava/lang/Object;" } : Jvm.MethodName) jdk_65_method_120_code (4 : Nat) (Option.some (Jvm.ClassFile.FieldType.array (Jvm.ClassFile.FieldType.object "java/lang/Object"))), Jvm.Cond.code ({ cls := "java/lang/Math", name := "min", desc := "(II)I" } : Jvm.MethodName) jdk_29_method_69_code (2 : Nat) (Option.some Jvm.ClassFile.FieldType.int), Jvm.Cond.code ({ cls := "java/util/ArrayDeque", name := "remove", desc := "()Ljava/lang/Object;" } : Jvm.MethodName) jdk_21_method_30_code (1 : Nat) (Option.some (Jvm.ClassFile.FieldType.object "java/lang/Object")), Jvm.Cond.code ({ cls := "java/util/ArrayDeque", name := "removeFirst", desc := "()Ljava/lang/Object;" } : Jvm.MethodName) jdk_21_method_18_code (2 : Nat) (Option.some (Jvm.ClassFile.FieldType.object "java/lang/Object")), Jvm.Cond.code ({ cls := "java/util/ArrayDeque", name := "pollFirst", desc := "()Ljava/lang/Object;" } : Jvm.MethodName) jdk_21_method_20_code (4 : Nat) (Option.some (Jvm.ClassFile.FieldType.object "java/lang/Object")), Jvm.Cond.code ({ cls := "com/example/adaptive_mirror/adaptivemirror/net/InFlight$Flush", name := "at", desc := "()J" } : Jvm.MethodName) prog_90_method_6_code (1 : Nat) (Option.some Jvm.ClassFile.FieldType.long), Jvm.Cond.code ({ cls := "java/lang/Math", name := "min", desc := "(JJ)J" } : Jvm.MethodName) jdk_29_method_70_code (4 : Nat) (Option.some Jvm.ClassFile.FieldType.long), Jvm.Cond.code ({ cls := "com/example/adaptive_mirror/adaptivemirror/net/InFlight", name := "measure", desc := "(Lcom/example/adaptive_mirror/adaptivemirror/net/InFlight$Frame;J)V" } : Jvm.MethodName) prog_89_method_9_code (12 : Nat) (Option.none : Option Jvm.ClassFile.FieldType), Jvm.Cond.code ({ cls := "com/example/adaptive_mirror/adaptivemirror/net/InFlight$Frame", name := "began", desc := "()J" } : Jvm.MethodName) prog_91_method_6_code (1 : Nat) (Option.some Jvm.ClassFile.FieldType.long), Jvm.Cond.code ({ cls := "com/example/adaptive_mirror/adaptivemirror/net/InFlight$Frame", name := "acknowledgedThen", desc := "()J" } : Jvm.MethodName) prog_91_method_7_code (1 : Nat) (Option.some Jvm.ClassFile.FieldType.long), Jvm.Cond.code ({ cls := "com/example/adaptive_mirror/adaptivemirror/net/InFlight$Frame", name := "limitThen", desc := "()J" } : Jvm.MethodName) prog_91_method_8_code (1 : Nat) (Option.some Jvm.ClassFile.FieldType.long)]
set_option maxRecDepth 65536 in
theorem codes_eq : words1.filter isCode = codes1 := rfl
theorem w_codes : ∀ c ∈ words1.filter isCode, c.before args0 about1 = true := by
  rw [codes_eq]
  intro c hc
  simp only [codes1, List.mem_cons, List.not_mem_nil, or_false] at hc
  rcases hc with rfl | rfl | rfl | rfl | rfl | rfl | rfl | rfl | rfl | rfl | rfl | rfl | rfl | rfl | rfl | rfl | rfl | rfl | rfl | rfl | rfl | rfl | rfl | rfl | rfl | rfl | rfl | rfl | rfl | rfl | rfl | rfl | rfl | rfl | rfl
  · exact w_c0
  · exact w_c1
  · exact w_c2
  · exact w_c3
  · exact w_c4
  · exact w_c5
  · exact w_c6
  · exact w_c7
  · exact w_c8
  · exact w_c9
  · exact w_c10
  · exact w_c11
  · exact w_c12
  · exact w_c13
  · exact w_c14
  · exact w_c15
  · exact w_c16
  · exact w_c17
  · exact w_c18
  · exact w_c19
  · exact w_c20
  · exact w_c21
  · exact w_c22
  · exact w_c23
  · exact w_c24
  · exact w_c25
  · exact w_c26
  · exact w_c27
  · exact w_c28
  · exact w_c29
  · exact w_c30
  · exact w_c31
  · exact w_c32
  · exact w_c33
  · exact w_c34
set_option maxRecDepth 65536 in
theorem w_t1 : (words1.take 24).all (fun c => isCode c || c.before args0 about1) = true := by decide +kernel
set_option maxRecDepth 65536 in
theorem w_t2 : ((words1.drop 24).take 24).all (fun c => isCode c || c.before args0 about1) = true := by decide +kernel
set_option maxRecDepth 65536 in
theorem w_t3 : (((words1.drop 24).drop 24).take 24).all (fun c => isCode c || c.before args0 about1) = true := by decide +kernel
set_option maxRecDepth 65536 in
theorem w_t4 : ((((words1.drop 24).drop 24).drop 24).take 24).all (fun c => isCode c || c.before args0 about1) = true := by decide +kernel
set_option maxRecDepth 65536 in
theorem w_t5 : (((((words1.drop 24).drop 24).drop 24).drop 24).take 24).all (fun c => isCode c || c.before args0 about1) = true := by decide +kernel
set_option maxRecDepth 65536 in
theorem w_t6 : ((((((words1.drop 24).drop 24).drop 24).drop 24).drop 24).take 24).all (fun c => isCode c || c.before args0 about1) = true := by decide +kernel
set_option maxRecDepth 65536 in
theorem w_t7 : (((((((words1.drop 24).drop 24).drop 24).drop 24).drop 24).drop 24).take 24).all (fun c => isCode c || c.before args0 about1) = true := by decide +kernel
set_option maxRecDepth 65536 in
theorem w_t8 : ((((((((words1.drop 24).drop 24).drop 24).drop 24).drop 24).drop 24).drop 24).take 24).all (fun c => isCode c || c.before args0 about1) = true := by decide +kernel
set_option maxRecDepth 65536 in
theorem w_t9 : (((((((((words1.drop 24).drop 24).drop 24).drop 24).drop 24).drop 24).drop 24).drop 24).take 24).all (fun c => isCode c || c.before args0 about1) = true := by decide +kernel
set_option maxRecDepth 65536 in
theorem w_t10 : (((((((((words1.drop 24).drop 24).drop 24).drop 24).drop 24).drop 24).drop 24).drop 24).drop 24).all (fun c => isCode c || c.before args0 about1) = true := by decide +kernel
theorem w_tables : (allAtoms (Jvm.Cond.code x code maxLocals ret :: tables_1)).before args0 about1 = true := by
  rw [allAtoms_all]
  show words1.all (fun c => c.before args0 about1) = true
  refine all_split ?_ w_codes
  rw [← List.take_append_drop 24 words1, List.all_append, w_t1, ← List.take_append_drop 24 (words1.drop 24), List.all_append, w_t2, ← List.take_append_drop 24 ((words1.drop 24).drop 24), List.all_append, w_t3, ← List.take_append_drop 24 (((words1.drop 24).drop 24).drop 24), List.all_append, w_t4, ← List.take_append_drop 24 ((((words1.drop 24).drop 24).drop 24).drop 24), List.all_append, w_t5, ← List.take_append_drop 24 (((((words1.drop 24).drop 24).drop 24).drop 24).drop 24), List.all_append, w_t6, ← List.take_append_drop 24 ((((((words1.drop 24).drop 24).drop 24).drop 24).drop 24).drop 24), List.all_append, w_t7, ← List.take_append_drop 24 (((((((words1.drop 24).drop 24).drop 24).drop 24).drop 24).drop 24).drop 24), List.all_append, w_t8, ← List.take_append_drop 24 ((((((((words1.drop 24).drop 24).drop 24).drop 24).drop 24).drop 24).drop 24).drop 24), List.all_append, w_t9, w_t10]
  rfl
set_option maxRecDepth 65536 in
theorem w_case : (Jvm.Cond.and given_1 narrow_1).before args0 about1 = true := by decide +kernel
theorem w_applies : (headSpec (Jvm.Cond.code x code maxLocals ret :: tables_1) room_1).applies x e0.platform about1 = true :=
  (Spec.applies_iff w_frames).mpr ⟨w_running, w_runnable, w_alone, w_named, w_hears, w_ripe, w_room, w_tables⟩
theorem atStart : AtStart classFile x code maxLocals ret World_1 tables_1 room_1 Calls_1 rest_1 Pre_1 launch0 p0 e0 about1 theMethod args0 below0 :=
  ⟨lists_1, trivial, launch0.admits_env _ _ _, launch0.least_env, fairChoices_fair.cas, fairChoices_fair.clock, w_frames, w_args, w_heap, w_applies, ⟨⟨21, k21, 0, by decide +kernel, rfl, rfl, _, rfl, rfl⟩, trivial⟩, trivial, w_case⟩
end start1
theorem witness_1 : WitnessClaimed_1 := ⟨start1.p0, start1.e0, start1.about1, start1.theMethod, start1.args0, start1.below0, start1.atStart⟩
end Jvm.Pilot.@@N@@

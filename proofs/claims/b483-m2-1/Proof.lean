import JvmDerived
import JvmDerived.Pilot.@@N@@Statement
import JvmDerived.Pilot.@@N@@Code
set_option linter.unusedVariables false
set_option linter.unusedSimpArgs false
namespace Jvm.OwnWp
open Sem ClassFile Op Lib Jvm.Stand Jvm.Free Jvm.LawKit Jvm.RoadKit
/-- what holds of the method that is walked: its bytes, its class, its tables -/
def Cx (Z : State) (own nm : String) (bytes : ByteArray) (ml : Nat) (ret : Option FieldType) (p : Program) (s : State) (m : MethodId) (meth : Method) (c : Code) : Prop :=
  p.tables.exec = Jvm.exec ∧ Z.Warmed39 s.vm ∧ s.vm.findClass own = some m.cls ∧ c.code = bytes ∧ c.maxLocals = ml ∧ meth.sig.returnType = ret ∧ meth.locks = false ∧ meth.name = nm
/-- from the frame g over the heap h the method returns v at a heap of which Q holds; it has written fresh places alone -/
def Go (p : Program) (l : Launch) (e : Env) (R : Room) (s : State) (m : MethodId) (args : Array Value) (below : List Frame) (meth : Method) (c : Code) (n0 : Nat) (h : Heap) (ce sl : Nat) (g : JFrame) (Q : Option Value → Heap → Prop) : Prop :=
  ∀ (T : State) (L : List Loc), Stand p l e R s m args below meth c T L ce sl → Fr n0 L → T.heap = h →
    ∃ (s₂ : State) (v : Option Value) (L' : List Loc), Steps p.tables e below (T.setTop g) s₂ ∧ s₂.status = .running ∧ Ended s₂ below (.returned v) ∧ Fr n0 L' ∧ Q v s₂.heap ∧ FrameEnd s (.returned v) s₂ L' R.cells R.slots
/-- the contract of a method: called with the values as' over the heap h it returns as Q says -/
def Ctr (l : Launch) (Z : State) (y : MethodName) (bytes : ByteArray) (ml : Nat) (ret : Option FieldType) (ws : List Cond) (rm : Room) (n0 : Nat) (as' : Array Value) (h : Heap) (Q : Option Value → Heap → Prop) : Prop :=
  MetFree l y (head1 (Cond.code y bytes ml ret :: ws) rm) (fun a U => a = as' ∧ Z.Warmed39 U.vm ∧ U.heap = h) (fun _ _ _ _ _ => True) (fun _ U o U' => ∃ v L, o = .returned v ∧ (Q v U'.heap ∧ Fr n0 L) ∧ FrameEnd U o U' L rm.cells rm.slots)
section Walk
variable {p : Program} {l : Launch} {e : Env} {R : Room} {s : State} {m : MethodId} {args : Array Value} {below : List Frame} {meth : Method} {c : Code} {Z : State} {a0 : Array Value} {own nm : String} {bytes : ByteArray} {ml : Nat} {ret : Option FieldType} {n0 ce sl pc pc' : Nat} {h : Heap} {Ls Ls' : Array Slot} {S : List Value} {Q : Option Value → Heap → Prop}
theorem one {g g' : JFrame} (st : ∀ (T : State) (L : List Loc), Stand p l e R s m args below meth c T L ce sl → T.heap = h → ∀ t, Steps p.tables e below (T.setTop g') t → Steps p.tables e below (T.setTop g) t) (q : Go p l e R s m args below meth c n0 h ce sl g' Q) : Go p l e R s m args below meth c n0 h ce sl g Q := fun T L X N eT => by
  obtain ⟨s₂, v, L', a1, r⟩ := q T L X N eT
  exact ⟨s₂, v, L', st T L X eT _ a1, r⟩
/-- a step that goes to another state over the same heap -/
theorem oneT {g g' : JFrame} (st : ∀ (T : State) (L : List Loc), Stand p l e R s m args below meth c T L ce sl → T.heap = h → ∃ T', Stand p l e R s m args below meth c T' L ce sl ∧ T'.heap = h ∧ ∀ t, Steps p.tables e below (T'.setTop g') t → Steps p.tables e below (T.setTop g) t) (q : Go p l e R s m args below meth c n0 h ce sl g' Q) : Go p l e R s m args below meth c n0 h ce sl g Q := fun T L X N eT => by
  obtain ⟨T', X', eT', k⟩ := st T L X eT
  obtain ⟨s₂, v, L', a1, r⟩ := q T' L X' N eT'
  exact ⟨s₂, v, L', k _ a1, r⟩
theorem Go.cast {g g' : JFrame} (q : g = g') (k : Go p l e R s m args below meth c n0 h ce sl g' Q) : Go p l e R s m args below meth c n0 h ce sl g Q := q ▸ k
theorem Go.mono {g : JFrame} {Q' : Option Value → Heap → Prop} (k : Go p l e R s m args below meth c n0 h ce sl g Q') (q : ∀ v h, Q' v h → Q v h) : Go p l e R s m args below meth c n0 h ce sl g Q := fun T L X N eT => by
  obtain ⟨s₂, v, L', a1, a2, a3, a4, a5, r⟩ := k T L X N eT
  exact ⟨s₂, v, L', a1, a2, a3, a4, q _ _ a5, r⟩

theorem iloadN (K : Cx Z own nm bytes ml ret p s m meth c) {k : Fin 4} {v : Int32} (hd : decode bytes pc = .ok (.iload_n k, 1)) (hl : Ls[k.val]? = some (.val (.int v))) (hp : pc + 1 = pc') (q : Go p l e R s m args below meth c n0 h ce sl (mkF m pc' Ls (.int v :: S)) Q) : Go p l e R s m args below meth c n0 h ce sl (mkF m pc Ls S) Q := by
  subst hp; exact one (fun T L X _ t => Jvm.Free.XS.iloadN X.here K.1 rfl (hb K.2.2.2.1 hd) hl) q
theorem iload (K : Cx Z own nm bytes ml ret p s m meth c) {k : Nat} {v : Int32} (hd : decode bytes pc = .ok (.iload k, 2)) (hl : Ls[k]? = some (.val (.int v))) (hp : pc + 2 = pc') (q : Go p l e R s m args below meth c n0 h ce sl (mkF m pc' Ls (.int v :: S)) Q) : Go p l e R s m args below meth c n0 h ce sl (mkF m pc Ls S) Q := by
  subst hp; exact one (fun T L X _ t => Jvm.Free.XS.iload X.here K.1 rfl (hb K.2.2.2.1 hd) hl) q
theorem istoreN (K : Cx Z own nm bytes ml ret p s m meth c) {k : Fin 4} {v : Int32} (hd : decode bytes pc = .ok (.istore_n k, 1)) (hl : storeLocals Ls k.val (.int v) = some Ls') (hp : pc + 1 = pc') (q : Go p l e R s m args below meth c n0 h ce sl (mkF m pc' Ls' S) Q) : Go p l e R s m args below meth c n0 h ce sl (mkF m pc Ls (.int v :: S)) Q := by
  subst hp; exact one (fun T L X _ t => Jvm.Free.XS.istoreN X.here K.1 rfl (hb K.2.2.2.1 hd) rfl hl) q
theorem istore (K : Cx Z own nm bytes ml ret p s m meth c) {k : Nat} {v : Int32} (hd : decode bytes pc = .ok (.istore k, 2)) (hl : storeLocals Ls k (.int v) = some Ls') (hp : pc + 2 = pc') (q : Go p l e R s m args below meth c n0 h ce sl (mkF m pc' Ls' S) Q) : Go p l e R s m args below meth c n0 h ce sl (mkF m pc Ls (.int v :: S)) Q := by
  subst hp; exact one (fun T L X _ t => Jvm.Free.XS.istore X.here K.1 rfl (hb K.2.2.2.1 hd) rfl hl) q
theorem lloadN (K : Cx Z own nm bytes ml ret p s m meth c) {k : Fin 4} {v : Int64} (hd : decode bytes pc = .ok (.lload_n k, 1)) (hl : Ls[k.val]? = some (.val (.long v))) (hp : pc + 1 = pc') (q : Go p l e R s m args below meth c n0 h ce sl (mkF m pc' Ls (.long v :: S)) Q) : Go p l e R s m args below meth c n0 h ce sl (mkF m pc Ls S) Q := by
  subst hp; exact one (fun T L X _ t => Jvm.Free.XT.lloadN X.here K.1 rfl (hb K.2.2.2.1 hd) hl) q
theorem lload (K : Cx Z own nm bytes ml ret p s m meth c) {k : Nat} {v : Int64} (hd : decode bytes pc = .ok (.lload k, 2)) (hl : Ls[k]? = some (.val (.long v))) (hp : pc + 2 = pc') (q : Go p l e R s m args below meth c n0 h ce sl (mkF m pc' Ls (.long v :: S)) Q) : Go p l e R s m args below meth c n0 h ce sl (mkF m pc Ls S) Q := by
  subst hp; exact one (fun T L X _ t => Jvm.Free.XT.lload X.here K.1 rfl (hb K.2.2.2.1 hd) hl) q
theorem lstoreN (K : Cx Z own nm bytes ml ret p s m meth c) {k : Fin 4} {v : Int64} (hd : decode bytes pc = .ok (.lstore_n k, 1)) (hl : storeLocals Ls k.val (.long v) = some Ls') (hp : pc + 1 = pc') (q : Go p l e R s m args below meth c n0 h ce sl (mkF m pc' Ls' S) Q) : Go p l e R s m args below meth c n0 h ce sl (mkF m pc Ls (.long v :: S)) Q := by
  subst hp; exact one (fun T L X _ t => Jvm.Free.XT.lstoreN X.here K.1 rfl (hb K.2.2.2.1 hd) rfl hl) q
theorem lstore (K : Cx Z own nm bytes ml ret p s m meth c) {k : Nat} {v : Int64} (hd : decode bytes pc = .ok (.lstore k, 2)) (hl : storeLocals Ls k (.long v) = some Ls') (hp : pc + 2 = pc') (q : Go p l e R s m args below meth c n0 h ce sl (mkF m pc' Ls' S) Q) : Go p l e R s m args below meth c n0 h ce sl (mkF m pc Ls (.long v :: S)) Q := by
  subst hp; exact one (fun T L X _ t => Jvm.Free.XT.lstore X.here K.1 rfl (hb K.2.2.2.1 hd) rfl hl) q
theorem dloadN (K : Cx Z own nm bytes ml ret p s m meth c) {k : Fin 4} {v : UInt64} (hd : decode bytes pc = .ok (.dload_n k, 1)) (hl : Ls[k.val]? = some (.val (.double v))) (hp : pc + 1 = pc') (q : Go p l e R s m args below meth c n0 h ce sl (mkF m pc' Ls (.double v :: S)) Q) : Go p l e R s m args below meth c n0 h ce sl (mkF m pc Ls S) Q := by
  subst hp; exact one (fun T L X _ t => Jvm.Free.XS.dloadN X.here K.1 rfl (hb K.2.2.2.1 hd) hl) q
theorem dload (K : Cx Z own nm bytes ml ret p s m meth c) {k : Nat} {v : UInt64} (hd : decode bytes pc = .ok (.dload k, 2)) (hl : Ls[k]? = some (.val (.double v))) (hp : pc + 2 = pc') (q : Go p l e R s m args below meth c n0 h ce sl (mkF m pc' Ls (.double v :: S)) Q) : Go p l e R s m args below meth c n0 h ce sl (mkF m pc Ls S) Q := by
  subst hp; exact one (fun T L X _ t => Jvm.Free.XS.dload X.here K.1 rfl (hb K.2.2.2.1 hd) hl) q
theorem dstoreN (K : Cx Z own nm bytes ml ret p s m meth c) {k : Fin 4} {v : UInt64} (hd : decode bytes pc = .ok (.dstore_n k, 1)) (hl : storeLocals Ls k.val (.double v) = some Ls') (hp : pc + 1 = pc') (q : Go p l e R s m args below meth c n0 h ce sl (mkF m pc' Ls' S) Q) : Go p l e R s m args below meth c n0 h ce sl (mkF m pc Ls (.double v :: S)) Q := by
  subst hp; exact one (fun T L X _ t => Jvm.Free.XS.dstoreN X.here K.1 rfl (hb K.2.2.2.1 hd) rfl hl) q
theorem dstore (K : Cx Z own nm bytes ml ret p s m meth c) {k : Nat} {v : UInt64} (hd : decode bytes pc = .ok (.dstore k, 2)) (hl : storeLocals Ls k (.double v) = some Ls') (hp : pc + 2 = pc') (q : Go p l e R s m args below meth c n0 h ce sl (mkF m pc' Ls' S) Q) : Go p l e R s m args below meth c n0 h ce sl (mkF m pc Ls (.double v :: S)) Q := by
  subst hp; exact one (fun T L X _ t => Jvm.Free.XS.dstore X.here K.1 rfl (hb K.2.2.2.1 hd) rfl hl) q
theorem aloadN (K : Cx Z own nm bytes ml ret p s m meth c) {k : Fin 4} {v : Value} (hd : decode bytes pc = .ok (.aload_n k, 1)) (hl : Ls[k.val]? = some (.val v)) (hv : v.isRef = true) (hp : pc + 1 = pc') (q : Go p l e R s m args below meth c n0 h ce sl (mkF m pc' Ls (v :: S)) Q) : Go p l e R s m args below meth c n0 h ce sl (mkF m pc Ls S) Q := by
  subst hp; exact one (fun T L X _ t => Jvm.Free.XS.aloadN X.here K.1 rfl (hb K.2.2.2.1 hd) hl hv) q
theorem aload (K : Cx Z own nm bytes ml ret p s m meth c) {k : Nat} {v : Value} (hd : decode bytes pc = .ok (.aload k, 2)) (hl : Ls[k]? = some (.val v)) (hv : v.isRef = true) (hp : pc + 2 = pc') (q : Go p l e R s m args below meth c n0 h ce sl (mkF m pc' Ls (v :: S)) Q) : Go p l e R s m args below meth c n0 h ce sl (mkF m pc Ls S) Q := by
  subst hp; exact one (fun T L X _ t => Jvm.Free.XS.aload X.here K.1 rfl (hb K.2.2.2.1 hd) hl hv) q
theorem astoreN (K : Cx Z own nm bytes ml ret p s m meth c) {k : Fin 4} {v : Value} (hd : decode bytes pc = .ok (.astore_n k, 1)) (hv : v.isRef = true) (hl : storeLocals Ls k.val v = some Ls') (hp : pc + 1 = pc') (q : Go p l e R s m args below meth c n0 h ce sl (mkF m pc' Ls' S) Q) : Go p l e R s m args below meth c n0 h ce sl (mkF m pc Ls (v :: S)) Q := by
  subst hp; exact one (fun T L X _ t => Jvm.Free.XS.astoreN X.here K.1 rfl (hb K.2.2.2.1 hd) rfl hv hl) q
theorem astore (K : Cx Z own nm bytes ml ret p s m meth c) {k : Nat} {v : Value} (hd : decode bytes pc = .ok (.astore k, 2)) (hv : v.isRef = true) (hl : storeLocals Ls k v = some Ls') (hp : pc + 2 = pc') (q : Go p l e R s m args below meth c n0 h ce sl (mkF m pc' Ls' S) Q) : Go p l e R s m args below meth c n0 h ce sl (mkF m pc Ls (v :: S)) Q := by
  subst hp; exact one (fun T L X _ t => Jvm.Free.XS.astore X.here K.1 rfl (hb K.2.2.2.1 hd) rfl hv hl) q
theorem iconst (K : Cx Z own nm bytes ml ret p s m meth c) {i : Int} (v : Int32) (hd : decode bytes pc = .ok (.iconst i, 1)) (hv : Int32.ofInt i = v) (hp : pc + 1 = pc') (q : Go p l e R s m args below meth c n0 h ce sl (mkF m pc' Ls (.int v :: S)) Q) : Go p l e R s m args below meth c n0 h ce sl (mkF m pc Ls S) Q := by
  subst hp; exact one (fun T L X _ t => Jvm.Free.XT.iconstV X.here K.1 rfl v (hb K.2.2.2.1 hd) hv) q
theorem bipush (K : Cx Z own nm bytes ml ret p s m meth c) {i : Int} (v : Int32) (hd : decode bytes pc = .ok (.bipush i, 2)) (hv : (Int8.ofInt i).toInt32 = v) (hp : pc + 2 = pc') (q : Go p l e R s m args below meth c n0 h ce sl (mkF m pc' Ls (.int v :: S)) Q) : Go p l e R s m args below meth c n0 h ce sl (mkF m pc Ls S) Q := by
  subst hp; exact one (fun T L X _ t => Jvm.Free.XT.bipushV X.here K.1 rfl v (hb K.2.2.2.1 hd) hv) q
theorem sipush (K : Cx Z own nm bytes ml ret p s m meth c) {i : Int} (v : Int32) (hd : decode bytes pc = .ok (.sipush i, 3)) (hv : (Int16.ofInt i).toInt32 = v) (hp : pc + 3 = pc') (q : Go p l e R s m args below meth c n0 h ce sl (mkF m pc' Ls (.int v :: S)) Q) : Go p l e R s m args below meth c n0 h ce sl (mkF m pc Ls S) Q := by
  subst hp; exact one (fun T L X _ t => Jvm.Free.XT.sipushV X.here K.1 rfl v (hb K.2.2.2.1 hd) hv) q
theorem lconst (K : Cx Z own nm bytes ml ret p s m meth c) {i : Fin 2} (v : Int64) (hd : decode bytes pc = .ok (.lconst i, 1)) (hv : Int64.ofNat i = v) (hp : pc + 1 = pc') (q : Go p l e R s m args below meth c n0 h ce sl (mkF m pc' Ls (.long v :: S)) Q) : Go p l e R s m args below meth c n0 h ce sl (mkF m pc Ls S) Q := by
  subst hp; exact one (fun T L X _ t => Jvm.Free.XT.lconstV X.here K.1 rfl v (hb K.2.2.2.1 hd) hv) q
theorem istoreS (K : Cx Z own nm bytes ml ret p s m meth c) {k : Nat} {x : Int32} {o : Slot} (hd : decode bytes pc = .ok (.istore k, 2)) (hold : Ls[k]? = some o) (ho : One o) (hl : Ls.setIfInBounds k (.val (.int x)) = Ls') (hp : pc + 2 = pc') (q : Go p l e R s m args below meth c n0 h ce sl (mkF m pc' Ls' S) Q) : Go p l e R s m args below meth c n0 h ce sl (mkF m pc Ls (.int x :: S)) Q := by
  subst hp hl; exact one (fun T L X _ t => Jvm.Free.XS.istoreS X.here K.1 rfl (hb K.2.2.2.1 hd) rfl hold ho) q
theorem istoreNS (K : Cx Z own nm bytes ml ret p s m meth c) {k : Fin 4} {x : Int32} {o : Slot} (hd : decode bytes pc = .ok (.istore_n k, 1)) (hold : Ls[k.val]? = some o) (ho : One o) (hl : Ls.setIfInBounds k.val (.val (.int x)) = Ls') (hp : pc + 1 = pc') (q : Go p l e R s m args below meth c n0 h ce sl (mkF m pc' Ls' S) Q) : Go p l e R s m args below meth c n0 h ce sl (mkF m pc Ls (.int x :: S)) Q := by
  subst hp hl; exact one (fun T L X _ t => Jvm.Free.XS.istoreNS X.here K.1 rfl (hb K.2.2.2.1 hd) rfl hold ho) q
theorem dconst0 (K : Cx Z own nm bytes ml ret p s m meth c) {v : UInt64} (hd : decode bytes pc = .ok (.dconst 0, 1)) (hv : FP.dconst0 = v) (hp : pc + 1 = pc') (q : Go p l e R s m args below meth c n0 h ce sl (mkF m pc' Ls (.double v :: S)) Q) : Go p l e R s m args below meth c n0 h ce sl (mkF m pc Ls S) Q := by
  subst hp; exact one (fun T L X _ t => Jvm.Free.XS.dconst0 X.here K.1 rfl (hb K.2.2.2.1 hd) hv) q
theorem dconst1 (K : Cx Z own nm bytes ml ret p s m meth c) {v : UInt64} (hd : decode bytes pc = .ok (.dconst 1, 1)) (hv : FP.dconst1 = v) (hp : pc + 1 = pc') (q : Go p l e R s m args below meth c n0 h ce sl (mkF m pc' Ls (.double v :: S)) Q) : Go p l e R s m args below meth c n0 h ce sl (mkF m pc Ls S) Q := by
  subst hp; exact one (fun T L X _ t => Jvm.Free.XS.dconst1 X.here K.1 rfl (hb K.2.2.2.1 hd) hv) q
theorem anull (K : Cx Z own nm bytes ml ret p s m meth c) (hd : decode bytes pc = .ok (.aconst_null, 1)) (hp : pc + 1 = pc') (q : Go p l e R s m args below meth c n0 h ce sl (mkF m pc' Ls (.null :: S)) Q) : Go p l e R s m args below meth c n0 h ce sl (mkF m pc Ls S) Q := by
  subst hp; exact one (fun T L X _ t => Jvm.Free.XS.aconstNull X.here K.1 rfl (hb K.2.2.2.1 hd) ) q
theorem iinc (K : Cx Z own nm bytes ml ret p s m meth c) {k : Nat} {i : Int} {x : Int32} (v : Int32) (hd : decode bytes pc = .ok (.iinc k i, 3)) (hv : Int32.ofInt i = v) (hl : Ls[k]? = some (.val (.int x))) (hl' : storeLocals Ls k (.int (x + v)) = some Ls') (hp : pc + 3 = pc') (q : Go p l e R s m args below meth c n0 h ce sl (mkF m pc' Ls' S) Q) : Go p l e R s m args below meth c n0 h ce sl (mkF m pc Ls S) Q := by
  subst hp; exact one (fun T L X _ t => Jvm.Free.XT.iincV X.here K.1 rfl v (hb K.2.2.2.1 hd) hv hl hl') q
theorem iadd (K : Cx Z own nm bytes ml ret p s m meth c) {x y : Int32} (hd : decode bytes pc = .ok (.iadd, 1)) (hp : pc + 1 = pc') (q : Go p l e R s m args below meth c n0 h ce sl (mkF m pc' Ls (.int (x + y) :: S)) Q) : Go p l e R s m args below meth c n0 h ce sl (mkF m pc Ls (.int y :: .int x :: S)) Q := by
  subst hp; exact one (fun T L X _ t => Jvm.Free.XS.iadd X.here K.1 rfl (hb K.2.2.2.1 hd) rfl) q
theorem isub (K : Cx Z own nm bytes ml ret p s m meth c) {x y : Int32} (hd : decode bytes pc = .ok (.isub, 1)) (hp : pc + 1 = pc') (q : Go p l e R s m args below meth c n0 h ce sl (mkF m pc' Ls (.int (x - y) :: S)) Q) : Go p l e R s m args below meth c n0 h ce sl (mkF m pc Ls (.int y :: .int x :: S)) Q := by
  subst hp; exact one (fun T L X _ t => Jvm.Free.XS.isub X.here K.1 rfl (hb K.2.2.2.1 hd) rfl) q
theorem imul (K : Cx Z own nm bytes ml ret p s m meth c) {x y : Int32} (hd : decode bytes pc = .ok (.imul, 1)) (hp : pc + 1 = pc') (q : Go p l e R s m args below meth c n0 h ce sl (mkF m pc' Ls (.int (x * y) :: S)) Q) : Go p l e R s m args below meth c n0 h ce sl (mkF m pc Ls (.int y :: .int x :: S)) Q := by
  subst hp; exact one (fun T L X _ t => Jvm.Free.XS.imul X.here K.1 rfl (hb K.2.2.2.1 hd) rfl) q
theorem iand (K : Cx Z own nm bytes ml ret p s m meth c) {x y : Int32} (hd : decode bytes pc = .ok (.iand, 1)) (hp : pc + 1 = pc') (q : Go p l e R s m args below meth c n0 h ce sl (mkF m pc' Ls (.int (x &&& y) :: S)) Q) : Go p l e R s m args below meth c n0 h ce sl (mkF m pc Ls (.int y :: .int x :: S)) Q := by
  subst hp; exact one (fun T L X _ t => Jvm.Free.XS.iand X.here K.1 rfl (hb K.2.2.2.1 hd) rfl) q
theorem ior (K : Cx Z own nm bytes ml ret p s m meth c) {x y : Int32} (hd : decode bytes pc = .ok (.ior, 1)) (hp : pc + 1 = pc') (q : Go p l e R s m args below meth c n0 h ce sl (mkF m pc' Ls (.int (x ||| y) :: S)) Q) : Go p l e R s m args below meth c n0 h ce sl (mkF m pc Ls (.int y :: .int x :: S)) Q := by
  subst hp; exact one (fun T L X _ t => Jvm.Free.XT.ior X.here K.1 rfl (hb K.2.2.2.1 hd) rfl) q
theorem ixor (K : Cx Z own nm bytes ml ret p s m meth c) {x y : Int32} (hd : decode bytes pc = .ok (.ixor, 1)) (hp : pc + 1 = pc') (q : Go p l e R s m args below meth c n0 h ce sl (mkF m pc' Ls (.int (x ^^^ y) :: S)) Q) : Go p l e R s m args below meth c n0 h ce sl (mkF m pc Ls (.int y :: .int x :: S)) Q := by
  subst hp; exact one (fun T L X _ t => Jvm.Free.XT.ixor X.here K.1 rfl (hb K.2.2.2.1 hd) rfl) q
theorem ishl (K : Cx Z own nm bytes ml ret p s m meth c) {x y : Int32} (hd : decode bytes pc = .ok (.ishl, 1)) (hp : pc + 1 = pc') (q : Go p l e R s m args below meth c n0 h ce sl (mkF m pc' Ls (.int (x <<< (y &&& 31)) :: S)) Q) : Go p l e R s m args below meth c n0 h ce sl (mkF m pc Ls (.int y :: .int x :: S)) Q := by
  subst hp; exact one (fun T L X _ t => Jvm.Free.XT.ishl X.here K.1 rfl (hb K.2.2.2.1 hd) rfl) q
theorem ishr (K : Cx Z own nm bytes ml ret p s m meth c) {x y : Int32} (hd : decode bytes pc = .ok (.ishr, 1)) (hp : pc + 1 = pc') (q : Go p l e R s m args below meth c n0 h ce sl (mkF m pc' Ls (.int (x >>> (y &&& 31)) :: S)) Q) : Go p l e R s m args below meth c n0 h ce sl (mkF m pc Ls (.int y :: .int x :: S)) Q := by
  subst hp; exact one (fun T L X _ t => Jvm.Free.XT.ishr X.here K.1 rfl (hb K.2.2.2.1 hd) rfl) q
theorem iushr (K : Cx Z own nm bytes ml ret p s m meth c) {x y : Int32} (hd : decode bytes pc = .ok (.iushr, 1)) (hp : pc + 1 = pc') (q : Go p l e R s m args below meth c n0 h ce sl (mkF m pc' Ls (.int ((x.toUInt32 >>> (y &&& 31).toUInt32).toInt32) :: S)) Q) : Go p l e R s m args below meth c n0 h ce sl (mkF m pc Ls (.int y :: .int x :: S)) Q := by
  subst hp; exact one (fun T L X _ t => Jvm.Free.XT.iushr X.here K.1 rfl (hb K.2.2.2.1 hd) rfl) q
theorem irem_mod (x y : Int32) : x - (x / y) * y = x % y := by
  apply Int32.toInt_inj.mp
  have h1 := Int32.le_toInt (x % y)
  have h2 := Int32.toInt_lt (x % y)
  rw [Int32.toInt_sub, Int32.toInt_mul, Int32.toInt_div, Int.bmod_mul_bmod, Int.sub_bmod_bmod, Int.mul_comm (x.toInt.tdiv y.toInt), ← Int.tmod_def, ← Int32.toInt_mod]
  exact Int.bmod_eq_of_le_mul_two (by omega) (by omega)
theorem irem (K : Cx Z own nm bytes ml ret p s m meth c) {x y : Int32} (hd : decode bytes pc = .ok (.irem, 1)) (hy : y ≠ 0) (hp : pc + 1 = pc') (q : Go p l e R s m args below meth c n0 h ce sl (mkF m pc' Ls (.int (x % y) :: S)) Q) : Go p l e R s m args below meth c n0 h ce sl (mkF m pc Ls (.int y :: .int x :: S)) Q := by
  subst hp; rw [← irem_mod] at q; exact one (fun T L X _ t => Jvm.Free.XS.irem X.here K.1 rfl (hb K.2.2.2.1 hd) rfl hy) q
theorem idiv (K : Cx Z own nm bytes ml ret p s m meth c) {x y : Int32} (hd : decode bytes pc = .ok (.idiv, 1)) (hy : y ≠ 0) (hp : pc + 1 = pc') (q : Go p l e R s m args below meth c n0 h ce sl (mkF m pc' Ls (.int (x / y) :: S)) Q) : Go p l e R s m args below meth c n0 h ce sl (mkF m pc Ls (.int y :: .int x :: S)) Q := by
  subst hp; exact one (fun T L X _ t => Jvm.Free.XS.idiv X.here K.1 rfl (hb K.2.2.2.1 hd) rfl hy) q
theorem ladd (K : Cx Z own nm bytes ml ret p s m meth c) {x y : Int64} (hd : decode bytes pc = .ok (.ladd, 1)) (hp : pc + 1 = pc') (q : Go p l e R s m args below meth c n0 h ce sl (mkF m pc' Ls (.long (x + y) :: S)) Q) : Go p l e R s m args below meth c n0 h ce sl (mkF m pc Ls (.long y :: .long x :: S)) Q := by
  subst hp; exact one (fun T L X _ t => Jvm.Free.XT.ladd X.here K.1 rfl (hb K.2.2.2.1 hd) rfl) q
theorem lsub (K : Cx Z own nm bytes ml ret p s m meth c) {x y : Int64} (hd : decode bytes pc = .ok (.lsub, 1)) (hp : pc + 1 = pc') (q : Go p l e R s m args below meth c n0 h ce sl (mkF m pc' Ls (.long (x - y) :: S)) Q) : Go p l e R s m args below meth c n0 h ce sl (mkF m pc Ls (.long y :: .long x :: S)) Q := by
  subst hp; exact one (fun T L X _ t => Jvm.Free.XT.lsub X.here K.1 rfl (hb K.2.2.2.1 hd) rfl) q
theorem lmul (K : Cx Z own nm bytes ml ret p s m meth c) {x y : Int64} (hd : decode bytes pc = .ok (.lmul, 1)) (hp : pc + 1 = pc') (q : Go p l e R s m args below meth c n0 h ce sl (mkF m pc' Ls (.long (x * y) :: S)) Q) : Go p l e R s m args below meth c n0 h ce sl (mkF m pc Ls (.long y :: .long x :: S)) Q := by
  subst hp; exact one (fun T L X _ t => Jvm.Free.XT.lmul X.here K.1 rfl (hb K.2.2.2.1 hd) rfl) q
theorem land (K : Cx Z own nm bytes ml ret p s m meth c) {x y : Int64} (hd : decode bytes pc = .ok (.land, 1)) (hp : pc + 1 = pc') (q : Go p l e R s m args below meth c n0 h ce sl (mkF m pc' Ls (.long (x &&& y) :: S)) Q) : Go p l e R s m args below meth c n0 h ce sl (mkF m pc Ls (.long y :: .long x :: S)) Q := by
  subst hp; exact one (fun T L X _ t => Jvm.Free.XT.land X.here K.1 rfl (hb K.2.2.2.1 hd) rfl) q
theorem lor (K : Cx Z own nm bytes ml ret p s m meth c) {x y : Int64} (hd : decode bytes pc = .ok (.lor, 1)) (hp : pc + 1 = pc') (q : Go p l e R s m args below meth c n0 h ce sl (mkF m pc' Ls (.long (x ||| y) :: S)) Q) : Go p l e R s m args below meth c n0 h ce sl (mkF m pc Ls (.long y :: .long x :: S)) Q := by
  subst hp; exact one (fun T L X _ t => Jvm.Free.XT.lor X.here K.1 rfl (hb K.2.2.2.1 hd) rfl) q
theorem lxor (K : Cx Z own nm bytes ml ret p s m meth c) {x y : Int64} (hd : decode bytes pc = .ok (.lxor, 1)) (hp : pc + 1 = pc') (q : Go p l e R s m args below meth c n0 h ce sl (mkF m pc' Ls (.long (x ^^^ y) :: S)) Q) : Go p l e R s m args below meth c n0 h ce sl (mkF m pc Ls (.long y :: .long x :: S)) Q := by
  subst hp; exact one (fun T L X _ t => Jvm.Free.XT.lxor X.here K.1 rfl (hb K.2.2.2.1 hd) rfl) q
theorem lshl (K : Cx Z own nm bytes ml ret p s m meth c) {x : Int64} {y : Int32} (hd : decode bytes pc = .ok (.lshl, 1)) (hp : pc + 1 = pc') (q : Go p l e R s m args below meth c n0 h ce sl (mkF m pc' Ls (.long (x <<< (y.toInt64 &&& 63)) :: S)) Q) : Go p l e R s m args below meth c n0 h ce sl (mkF m pc Ls (.int y :: .long x :: S)) Q := by
  subst hp; exact one (fun T L X _ t => Jvm.Free.XT.lshl X.here K.1 rfl (hb K.2.2.2.1 hd) rfl) q
theorem lshr (K : Cx Z own nm bytes ml ret p s m meth c) {x : Int64} {y : Int32} (hd : decode bytes pc = .ok (.lshr, 1)) (hp : pc + 1 = pc') (q : Go p l e R s m args below meth c n0 h ce sl (mkF m pc' Ls (.long (x >>> (y.toInt64 &&& 63)) :: S)) Q) : Go p l e R s m args below meth c n0 h ce sl (mkF m pc Ls (.int y :: .long x :: S)) Q := by
  subst hp; exact one (fun T L X _ t => Jvm.Free.XT.lshr X.here K.1 rfl (hb K.2.2.2.1 hd) rfl) q
theorem lushr (K : Cx Z own nm bytes ml ret p s m meth c) {x : Int64} {y : Int32} (hd : decode bytes pc = .ok (.lushr, 1)) (hp : pc + 1 = pc') (q : Go p l e R s m args below meth c n0 h ce sl (mkF m pc' Ls (.long (XT.ushrL x y) :: S)) Q) : Go p l e R s m args below meth c n0 h ce sl (mkF m pc Ls (.int y :: .long x :: S)) Q := by
  subst hp; exact one (fun T L X _ t => Jvm.Free.XT.lushr X.here K.1 rfl (hb K.2.2.2.1 hd) rfl) q
theorem ldiv (K : Cx Z own nm bytes ml ret p s m meth c) {x y : Int64} (hd : decode bytes pc = .ok (.ldiv, 1)) (hy : y ≠ 0) (hp : pc + 1 = pc') (q : Go p l e R s m args below meth c n0 h ce sl (mkF m pc' Ls (.long (x / y) :: S)) Q) : Go p l e R s m args below meth c n0 h ce sl (mkF m pc Ls (.long y :: .long x :: S)) Q := by
  subst hp; exact one (fun T L X _ t => Jvm.Free.XT.ldiv X.here K.1 rfl (hb K.2.2.2.1 hd) rfl hy) q
theorem lrem (K : Cx Z own nm bytes ml ret p s m meth c) {x y : Int64} (hd : decode bytes pc = .ok (.lrem, 1)) (hy : y ≠ 0) (hp : pc + 1 = pc') (q : Go p l e R s m args below meth c n0 h ce sl (mkF m pc' Ls (.long (x % y) :: S)) Q) : Go p l e R s m args below meth c n0 h ce sl (mkF m pc Ls (.long y :: .long x :: S)) Q := by
  subst hp; rw [← lrem_mod] at q; exact one (fun T L X _ t => Jvm.Free.XT.lrem X.here K.1 rfl (hb K.2.2.2.1 hd) rfl hy) q
theorem lcmp (K : Cx Z own nm bytes ml ret p s m meth c) {x y : Int64} (hd : decode bytes pc = .ok (.lcmp, 1)) (hp : pc + 1 = pc') (q : Go p l e R s m args below meth c n0 h ce sl (mkF m pc' Ls (.int (XT.cmpL x y) :: S)) Q) : Go p l e R s m args below meth c n0 h ce sl (mkF m pc Ls (.long y :: .long x :: S)) Q := by
  subst hp; exact one (fun T L X _ t => Jvm.Free.XT.lcmp X.here K.1 rfl (hb K.2.2.2.1 hd) rfl) q
theorem i2l (K : Cx Z own nm bytes ml ret p s m meth c) {x : Int32} (hd : decode bytes pc = .ok (.i2l, 1)) (hp : pc + 1 = pc') (q : Go p l e R s m args below meth c n0 h ce sl (mkF m pc' Ls (.long x.toInt64 :: S)) Q) : Go p l e R s m args below meth c n0 h ce sl (mkF m pc Ls (.int x :: S)) Q := by
  subst hp; exact one (fun T L X _ t => Jvm.Free.XT.i2l X.here K.1 rfl (hb K.2.2.2.1 hd) rfl) q
theorem l2i (K : Cx Z own nm bytes ml ret p s m meth c) {x : Int64} (hd : decode bytes pc = .ok (.l2i, 1)) (hp : pc + 1 = pc') (q : Go p l e R s m args below meth c n0 h ce sl (mkF m pc' Ls (.int x.toInt32 :: S)) Q) : Go p l e R s m args below meth c n0 h ce sl (mkF m pc Ls (.long x :: S)) Q := by
  subst hp; exact one (fun T L X _ t => Jvm.Free.XT.l2i X.here K.1 rfl (hb K.2.2.2.1 hd) rfl) q
theorem i2c (K : Cx Z own nm bytes ml ret p s m meth c) {x : Int32} (hd : decode bytes pc = .ok (.i2c, 1)) (hp : pc + 1 = pc') (q : Go p l e R s m args below meth c n0 h ce sl (mkF m pc' Ls (.int x.toUInt32.toUInt16.toUInt32.toInt32 :: S)) Q) : Go p l e R s m args below meth c n0 h ce sl (mkF m pc Ls (.int x :: S)) Q := by
  subst hp; exact one (fun T L X _ t => Jvm.Free.XT.i2c X.here K.1 rfl (hb K.2.2.2.1 hd) rfl) q
theorem i2b (K : Cx Z own nm bytes ml ret p s m meth c) {x : Int32} (hd : decode bytes pc = .ok (.i2b, 1)) (hp : pc + 1 = pc') (q : Go p l e R s m args below meth c n0 h ce sl (mkF m pc' Ls (.int x.toInt8.toInt32 :: S)) Q) : Go p l e R s m args below meth c n0 h ce sl (mkF m pc Ls (.int x :: S)) Q := by
  subst hp; exact one (fun T L X _ t => Jvm.Free.XT.i2b X.here K.1 rfl (hb K.2.2.2.1 hd) rfl) q
theorem i2d (K : Cx Z own nm bytes ml ret p s m meth c) {x : Int32} (hd : decode bytes pc = .ok (.i2d, 1)) (hp : pc + 1 = pc') (q : Go p l e R s m args below meth c n0 h ce sl (mkF m pc' Ls (.double (FP.i2d x) :: S)) Q) : Go p l e R s m args below meth c n0 h ce sl (mkF m pc Ls (.int x :: S)) Q := by
  subst hp; exact one (fun T L X _ t => Jvm.Free.XS.i2dS X.here K.1 rfl (hb K.2.2.2.1 hd) rfl rfl) q
theorem l2d (K : Cx Z own nm bytes ml ret p s m meth c) {x : Int64} (hd : decode bytes pc = .ok (.l2d, 1)) (hp : pc + 1 = pc') (q : Go p l e R s m args below meth c n0 h ce sl (mkF m pc' Ls (.double (FP.l2d x) :: S)) Q) : Go p l e R s m args below meth c n0 h ce sl (mkF m pc Ls (.long x :: S)) Q := by
  subst hp; exact one (fun T L X _ t => Jvm.Free.XS.l2dS X.here K.1 rfl (hb K.2.2.2.1 hd) rfl rfl) q
theorem d2l (K : Cx Z own nm bytes ml ret p s m meth c) {x : UInt64} (hd : decode bytes pc = .ok (.d2l, 1)) (hp : pc + 1 = pc') (q : Go p l e R s m args below meth c n0 h ce sl (mkF m pc' Ls (.long (FP.d2l x) :: S)) Q) : Go p l e R s m args below meth c n0 h ce sl (mkF m pc Ls (.double x :: S)) Q := by
  subst hp; exact one (fun T L X _ t => Jvm.Free.XS.d2lS X.here K.1 rfl (hb K.2.2.2.1 hd) rfl rfl) q
theorem d2i (K : Cx Z own nm bytes ml ret p s m meth c) {x : UInt64} (hd : decode bytes pc = .ok (.d2i, 1)) (hp : pc + 1 = pc') (q : Go p l e R s m args below meth c n0 h ce sl (mkF m pc' Ls (.int (FP.d2i x) :: S)) Q) : Go p l e R s m args below meth c n0 h ce sl (mkF m pc Ls (.double x :: S)) Q := by
  subst hp; exact one (fun T L X _ t => Jvm.Free.XS.d2iS X.here K.1 rfl (hb K.2.2.2.1 hd) rfl rfl) q
theorem dadd (K : Cx Z own nm bytes ml ret p s m meth c) {x y : UInt64} (hd : decode bytes pc = .ok (.dadd, 1)) (hn : Jvm.Free.Fl.NoNaN64 (FP.dadd x y)) (hp : pc + 1 = pc') (q : Go p l e R s m args below meth c n0 h ce sl (mkF m pc' Ls (.double (FP.dadd x y) :: S)) Q) : Go p l e R s m args below meth c n0 h ce sl (mkF m pc Ls (.double y :: .double x :: S)) Q := by
  subst hp; exact one (fun T L X _ t => Jvm.Free.XS.daddS X.here K.1 rfl (hb K.2.2.2.1 hd) rfl hn rfl) q
theorem dsub (K : Cx Z own nm bytes ml ret p s m meth c) {x y : UInt64} (hd : decode bytes pc = .ok (.dsub, 1)) (hn : Jvm.Free.Fl.NoNaN64 (FP.dsub x y)) (hp : pc + 1 = pc') (q : Go p l e R s m args below meth c n0 h ce sl (mkF m pc' Ls (.double (FP.dsub x y) :: S)) Q) : Go p l e R s m args below meth c n0 h ce sl (mkF m pc Ls (.double y :: .double x :: S)) Q := by
  subst hp; exact one (fun T L X _ t => Jvm.Free.XS.dsubS X.here K.1 rfl (hb K.2.2.2.1 hd) rfl hn rfl) q
theorem dmul (K : Cx Z own nm bytes ml ret p s m meth c) {x y : UInt64} (hd : decode bytes pc = .ok (.dmul, 1)) (hn : Jvm.Free.Fl.NoNaN64 (FP.dmul x y)) (hp : pc + 1 = pc') (q : Go p l e R s m args below meth c n0 h ce sl (mkF m pc' Ls (.double (FP.dmul x y) :: S)) Q) : Go p l e R s m args below meth c n0 h ce sl (mkF m pc Ls (.double y :: .double x :: S)) Q := by
  subst hp; exact one (fun T L X _ t => Jvm.Free.XS.dmulS X.here K.1 rfl (hb K.2.2.2.1 hd) rfl hn rfl) q
theorem ddiv (K : Cx Z own nm bytes ml ret p s m meth c) {x y : UInt64} (hd : decode bytes pc = .ok (.ddiv, 1)) (hn : Jvm.Free.Fl.NoNaN64 (FP.ddiv x y)) (hp : pc + 1 = pc') (q : Go p l e R s m args below meth c n0 h ce sl (mkF m pc' Ls (.double (FP.ddiv x y) :: S)) Q) : Go p l e R s m args below meth c n0 h ce sl (mkF m pc Ls (.double y :: .double x :: S)) Q := by
  subst hp; exact one (fun T L X _ t => Jvm.Free.XS.ddivS X.here K.1 rfl (hb K.2.2.2.1 hd) rfl hn rfl) q
theorem dcmp (K : Cx Z own nm bytes ml ret p s m meth c) {o : CmpOp} {x y : UInt64} (hd : decode bytes pc = .ok (.dcmp o, 1)) (hp : pc + 1 = pc') (q : Go p l e R s m args below meth c n0 h ce sl (mkF m pc' Ls (.int (cmpValue (FP.dcmp x y) o) :: S)) Q) : Go p l e R s m args below meth c n0 h ce sl (mkF m pc Ls (.double y :: .double x :: S)) Q := by
  subst hp; exact one (fun T L X _ t => Jvm.Free.XS.dcmpS X.here K.1 rfl (hb K.2.2.2.1 hd) rfl rfl) q
theorem dup (K : Cx Z own nm bytes ml ret p s m meth c) {x : Value} (hd : decode bytes pc = .ok (.dup, 1)) (hc : x.category = 1) (hp : pc + 1 = pc') (q : Go p l e R s m args below meth c n0 h ce sl (mkF m pc' Ls (x :: x :: S)) Q) : Go p l e R s m args below meth c n0 h ce sl (mkF m pc Ls (x :: S)) Q := by
  subst hp; exact one (fun T L X _ t => Jvm.Free.XS.dup X.here K.1 rfl (hb K.2.2.2.1 hd) rfl hc) q
theorem pop (K : Cx Z own nm bytes ml ret p s m meth c) {x : Value} (hd : decode bytes pc = .ok (.pop, 1)) (hc : x.category = 1) (hp : pc + 1 = pc') (q : Go p l e R s m args below meth c n0 h ce sl (mkF m pc' Ls S) Q) : Go p l e R s m args below meth c n0 h ce sl (mkF m pc Ls (x :: S)) Q := by
  subst hp; exact one (fun T L X _ t => Jvm.Free.XT.pop X.here K.1 rfl (hb K.2.2.2.1 hd) rfl hc) q
theorem dupX1 (K : Cx Z own nm bytes ml ret p s m meth c) {x y : Value} (hd : decode bytes pc = .ok (.dup_x1, 1)) (hc : x.category = 1) (hc' : y.category = 1) (hp : pc + 1 = pc') (q : Go p l e R s m args below meth c n0 h ce sl (mkF m pc' Ls (x :: y :: x :: S)) Q) : Go p l e R s m args below meth c n0 h ce sl (mkF m pc Ls (x :: y :: S)) Q := by
  subst hp; exact one (fun T L X _ t => Jvm.Free.XT.dupX1 X.here K.1 rfl (hb K.2.2.2.1 hd) rfl hc hc') q
theorem dup2 (K : Cx Z own nm bytes ml ret p s m meth c) {x y : Value} (hd : decode bytes pc = .ok (.dup2, 1)) (hc : x.category = 1) (hc' : y.category = 1) (hp : pc + 1 = pc') (q : Go p l e R s m args below meth c n0 h ce sl (mkF m pc' Ls (x :: y :: x :: y :: S)) Q) : Go p l e R s m args below meth c n0 h ce sl (mkF m pc Ls (x :: y :: S)) Q := by
  subst hp; exact one (fun T L X _ t => Jvm.Free.XT.dup2 X.here K.1 rfl (hb K.2.2.2.1 hd) rfl hc hc') q
theorem dup2L (K : Cx Z own nm bytes ml ret p s m meth c) {x : Int64} (hd : decode bytes pc = .ok (.dup2, 1)) (hp : pc + 1 = pc') (q : Go p l e R s m args below meth c n0 h ce sl (mkF m pc' Ls (.long x :: .long x :: S)) Q) : Go p l e R s m args below meth c n0 h ce sl (mkF m pc Ls (.long x :: S)) Q := by
  subst hp; exact one (fun T L X _ t => Jvm.Free.XT.dup2L X.here K.1 rfl (hb K.2.2.2.1 hd) rfl) q
theorem goto' (K : Cx Z own nm bytes ml ret p s m meth c) {o : Int} (hd : decode bytes pc = .ok (.goto o, 3)) (ho : 0 ≤ (pc : Int) + o) (hp : ((pc : Int) + o).toNat = pc') (q : Go p l e R s m args below meth c n0 h ce sl (mkF m pc' Ls S) Q) : Go p l e R s m args below meth c n0 h ce sl (mkF m pc Ls S) Q :=
  one (fun T L X _ t => Jvm.Free.XS.goto X.here K.1 rfl rfl (hb K.2.2.2.1 hd) ho hp) q
theorem ifY (K : Cx Z own nm bytes ml ret p s m meth c) {cd : ClassFile.Cond} {o : Int} {x : Int32} (hd : decode bytes pc = .ok (.ifCond cd o, 3)) (hc : ifCond.holds cd x = true) (ho : 0 ≤ (pc : Int) + o) (hp : ((pc : Int) + o).toNat = pc') (q : Go p l e R s m args below meth c n0 h ce sl (mkF m pc' Ls S) Q) : Go p l e R s m args below meth c n0 h ce sl (mkF m pc Ls (.int x :: S)) Q :=
  one (fun T L X _ t => Jvm.Free.XS.ifYes X.here K.1 rfl rfl (hb K.2.2.2.1 hd) rfl hc ho hp) q
theorem ifN (K : Cx Z own nm bytes ml ret p s m meth c) {cd : ClassFile.Cond} {o : Int} {x : Int32} (hd : decode bytes pc = .ok (.ifCond cd o, 3)) (hc : ifCond.holds cd x = false) (hp : pc + 3 = pc') (q : Go p l e R s m args below meth c n0 h ce sl (mkF m pc' Ls S) Q) : Go p l e R s m args below meth c n0 h ce sl (mkF m pc Ls (.int x :: S)) Q := by
  subst hp; exact one (fun T L X _ t => Jvm.Free.XS.ifNo X.here K.1 rfl (hb K.2.2.2.1 hd) rfl hc) q
theorem icY (K : Cx Z own nm bytes ml ret p s m meth c) {cd : ClassFile.Cond} {o : Int} {x y : Int32} (hd : decode bytes pc = .ok (.if_icmp cd o, 3)) (hc : if_icmp.holds cd x y = true) (ho : 0 ≤ (pc : Int) + o) (hp : ((pc : Int) + o).toNat = pc') (q : Go p l e R s m args below meth c n0 h ce sl (mkF m pc' Ls S) Q) : Go p l e R s m args below meth c n0 h ce sl (mkF m pc Ls (.int y :: .int x :: S)) Q :=
  one (fun T L X _ t => Jvm.Free.XS.icmpYes X.here K.1 rfl rfl (hb K.2.2.2.1 hd) rfl hc ho hp) q
theorem icN (K : Cx Z own nm bytes ml ret p s m meth c) {cd : ClassFile.Cond} {o : Int} {x y : Int32} (hd : decode bytes pc = .ok (.if_icmp cd o, 3)) (hc : if_icmp.holds cd x y = false) (hp : pc + 3 = pc') (q : Go p l e R s m args below meth c n0 h ce sl (mkF m pc' Ls S) Q) : Go p l e R s m args below meth c n0 h ce sl (mkF m pc Ls (.int y :: .int x :: S)) Q := by
  subst hp; exact one (fun T L X _ t => Jvm.Free.XS.icmpNo X.here K.1 rfl (hb K.2.2.2.1 hd) rfl hc) q
theorem nullY (K : Cx Z own nm bytes ml ret p s m meth c) {o : Int} (hd : decode bytes pc = .ok (.ifnull o, 3)) (ho : 0 ≤ (pc : Int) + o) (hp : ((pc : Int) + o).toNat = pc') (q : Go p l e R s m args below meth c n0 h ce sl (mkF m pc' Ls S) Q) : Go p l e R s m args below meth c n0 h ce sl (mkF m pc Ls (.null :: S)) Q :=
  one (fun T L X _ t => Jvm.Free.XS.ifnullYes X.here K.1 rfl rfl (hb K.2.2.2.1 hd) rfl ho hp) q
theorem nullN (K : Cx Z own nm bytes ml ret p s m meth c) {o : Int} {b : Addr} (hd : decode bytes pc = .ok (.ifnull o, 3)) (hp : pc + 3 = pc') (q : Go p l e R s m args below meth c n0 h ce sl (mkF m pc' Ls S) Q) : Go p l e R s m args below meth c n0 h ce sl (mkF m pc Ls (.ref b :: S)) Q := by
  subst hp; exact one (fun T L X _ t => Jvm.Free.XS.ifnullNo X.here K.1 rfl (hb K.2.2.2.1 hd) rfl) q
theorem nonnullY (K : Cx Z own nm bytes ml ret p s m meth c) {o : Int} {b : Addr} (hd : decode bytes pc = .ok (.ifnonnull o, 3)) (ho : 0 ≤ (pc : Int) + o) (hp : ((pc : Int) + o).toNat = pc') (q : Go p l e R s m args below meth c n0 h ce sl (mkF m pc' Ls S) Q) : Go p l e R s m args below meth c n0 h ce sl (mkF m pc Ls (.ref b :: S)) Q :=
  one (fun T L X _ t => Jvm.Free.XT.ifnonnullYes X.here K.1 rfl rfl (hb K.2.2.2.1 hd) rfl ho hp) q
theorem nonnullN (K : Cx Z own nm bytes ml ret p s m meth c) {o : Int} (hd : decode bytes pc = .ok (.ifnonnull o, 3)) (hp : pc + 3 = pc') (q : Go p l e R s m args below meth c n0 h ce sl (mkF m pc' Ls S) Q) : Go p l e R s m args below meth c n0 h ce sl (mkF m pc Ls (.null :: S)) Q := by
  subst hp; exact one (fun T L X _ t => Jvm.Free.XT.ifnonnullNo X.here K.1 rfl (hb K.2.2.2.1 hd) rfl) q
theorem acY (K : Cx Z own nm bytes ml ret p s m meth c) {cd : ClassFile.ACond} {o : Int} {x y : Value} (hd : decode bytes pc = .ok (.if_acmp cd o, 3)) (hx : x.isRef = true) (hy : y.isRef = true) (hc : XT.acmp cd x y = true) (ho : 0 ≤ (pc : Int) + o) (hp : ((pc : Int) + o).toNat = pc') (q : Go p l e R s m args below meth c n0 h ce sl (mkF m pc' Ls S) Q) : Go p l e R s m args below meth c n0 h ce sl (mkF m pc Ls (y :: x :: S)) Q :=
  one (fun T L X _ t => Jvm.Free.XT.acmpYes X.here K.1 rfl rfl (hb K.2.2.2.1 hd) rfl hx hy hc ho hp) q
theorem acN (K : Cx Z own nm bytes ml ret p s m meth c) {cd : ClassFile.ACond} {o : Int} {x y : Value} (hd : decode bytes pc = .ok (.if_acmp cd o, 3)) (hx : x.isRef = true) (hy : y.isRef = true) (hc : XT.acmp cd x y = false) (hp : pc + 3 = pc') (q : Go p l e R s m args below meth c n0 h ce sl (mkF m pc' Ls S) Q) : Go p l e R s m args below meth c n0 h ce sl (mkF m pc Ls (y :: x :: S)) Q := by
  subst hp; exact one (fun T L X _ t => Jvm.Free.XT.acmpNo X.here K.1 rfl (hb K.2.2.2.1 hd) rfl hx hy hc) q
theorem ldcI (K : Cx Z own nm bytes ml ret p s m meth c) {i : Nat} {v : Int32} (w : (Cond.constant own i v).before a0 Z = true) (hd : decode bytes pc = .ok (.ldc i, 2)) (hp : pc + 2 = pc') (q : Go p l e R s m args below meth c n0 h ce sl (mkF m pc' Ls (.int v :: S)) Q) : Go p l e R s m args below meth c n0 h ce sl (mkF m pc Ls S) Q := by
  subst hp; exact one (fun T L X _ t => X.ldcI K.1 K.2.2.1 (mvT K.2.1 w) rfl (hb K.2.2.2.1 hd)) q
theorem ldcWI (K : Cx Z own nm bytes ml ret p s m meth c) {i : Nat} {v : Int32} (w : (Cond.constant own i v).before a0 Z = true) (hd : decode bytes pc = .ok (.ldc_w i, 3)) (hp : pc + 3 = pc') (q : Go p l e R s m args below meth c n0 h ce sl (mkF m pc' Ls (.int v :: S)) Q) : Go p l e R s m args below meth c n0 h ce sl (mkF m pc Ls S) Q := by
  subst hp; exact one (fun T L X _ t => X.ldcWI K.1 K.2.2.1 (mvT K.2.1 w) rfl (hb K.2.2.2.1 hd)) q
theorem ldc2J (K : Cx Z own nm bytes ml ret p s m meth c) {i : Nat} {v : Int64} (w : (Cond.constantLong own i v).before a0 Z = true) (hd : decode bytes pc = .ok (.ldc2_w i, 3)) (hp : pc + 3 = pc') (q : Go p l e R s m args below meth c n0 h ce sl (mkF m pc' Ls (.long v :: S)) Q) : Go p l e R s m args below meth c n0 h ce sl (mkF m pc Ls S) Q := by
  subst hp; exact one (fun T L X _ t => X.ldc2J K.1 K.2.2.1 (mvT K.2.1 w) rfl (hb K.2.2.2.1 hd)) q
theorem ldc2D (K : Cx Z own nm bytes ml ret p s m meth c) {i : Nat} {v : UInt64} (w : (Cond.constantDouble own i v).before a0 Z = true) (hd : decode bytes pc = .ok (.ldc2_w i, 3)) (hp : pc + 3 = pc') (q : Go p l e R s m args below meth c n0 h ce sl (mkF m pc' Ls (.double v :: S)) Q) : Go p l e R s m args below meth c n0 h ce sl (mkF m pc Ls S) Q := by
  subst hp; exact one (fun T L X _ t => X.ldc2DoubleC K.1 K.2.2.1 (mvT (args := args) K.2.1 w) (g := mkF m pc Ls S) rfl (hb K.2.2.2.1 hd) t) q
theorem getf (K : Cx Z own nm bytes ml ret p s m meth c) {i : Nat} {R0 O n d : String} {a : Addr} {v : Value} (w : (Cond.fieldLink own i R0 n d).before a0 Z = true) (via : Via Z R0 O n d) (F : Fld Z h a O n d v) (hd : decode bytes pc = .ok (.getfield i, 3)) (hp : pc + 3 = pc') (q : Go p l e R s m args below meth c n0 h ce sl (mkF m pc' Ls (v :: S)) Q) : Go p l e R s m args below meth c n0 h ce sl (mkF m pc Ls (.ref a :: S)) Q := by
  subst hp; exact oneT (fun T L X eT => getF X K.1 K.2.1 K.2.2.1 (host := "") (Or.inl w) via eT F rfl rfl (hb K.2.2.2.1 hd)) q
theorem getfN (K : Cx Z own nm bytes ml ret p s m meth c) {i : Nat} {R0 O n d host : String} {a : Addr} {v : Value} (w : (Cond.fieldLinkNest own i R0 n d host).before a0 Z = true) (via : Via Z R0 O n d) (F : Fld Z h a O n d v) (hd : decode bytes pc = .ok (.getfield i, 3)) (hp : pc + 3 = pc') (q : Go p l e R s m args below meth c n0 h ce sl (mkF m pc' Ls (v :: S)) Q) : Go p l e R s m args below meth c n0 h ce sl (mkF m pc Ls (.ref a :: S)) Q := by
  subst hp; exact oneT (fun T L X eT => getF X K.1 K.2.1 K.2.2.1 (Or.inr w) via eT F rfl rfl (hb K.2.2.2.1 hd)) q
theorem getfR (K : Cx Z own nm bytes ml ret p s m meth c) {i : Nat} {O n d : String} {a : Addr} {v : Value} (w : (Cond.fieldRef own i O n d).before a0 Z = true) (F : Fld Z h a O n d v) (hd : decode bytes pc = .ok (.getfield i, 3)) (hp : pc + 3 = pc') (q : Go p l e R s m args below meth c n0 h ce sl (mkF m pc' Ls (v :: S)) Q) : Go p l e R s m args below meth c n0 h ce sl (mkF m pc Ls (.ref a :: S)) Q := by
  subst hp
  refine one (fun T L X eT t k => ?_) q
  have hT : Z.Warmed39 T.vm := wtrans K.2.1 X.warmed
  obtain ⟨c1, k1, i1, f1, g1, g2⟩ := Cond.fieldRef_spec (s := Z.setVm T.vm) (cur := m.cls) (by show T.vm.findClass own = _; rw [X.warmed.alike.findClass]; exact K.2.2.1) (Cond.fieldRef_warmed39 hT w)
  obtain ⟨cell, cf, kf, i2, f2, h1, h2, h3, h4, -, -, h7⟩ := F
  obtain ⟨k', hi, -⟩ := State.fieldFound?_setVm (s := Z) hT.alike h2
  cases g1.symm.trans hi
  exact (X.getfieldR K.1 (g := mkF m pc Ls (.ref a :: S)) rfl g2 h3 rfl (by rw [eT]; exact h1) h4 h7 (hb K.2.2.2.1 hd) (Steps.refl _)).trans k
theorem gets (K : Cx Z own nm bytes ml ret p s m meth c) {i : Nat} {R0 O n d : String} {v : Value} (w : (Cond.fieldLink own i R0 n d).before a0 Z = true) (via : Via Z R0 O n d) (F : Sta Z h O n d v) (hd : decode bytes pc = .ok (.getstatic i, 3)) (hp : pc + 3 = pc') (q : Go p l e R s m args below meth c n0 h ce sl (mkF m pc' Ls (v :: S)) Q) : Go p l e R s m args below meth c n0 h ce sl (mkF m pc Ls S) Q := by
  subst hp; exact oneT (fun T L X eT => getS X K.1 K.2.1 K.2.2.1 (host := "") w via eT F rfl (hb K.2.2.2.1 hd)) q
theorem putf (K : Cx Z own nm bytes ml ret p s m meth c) {i kk : Nat} {R0 O n d C : String} {ty : FieldType} {a : Addr} {v old : Value} (w : (Cond.fieldLink own i R0 n d).before a0 Z = true) (via : Via Z R0 O n d) (F : Fld Z h a O n d old) (E : Exa Z h a C) (L : (Cond.lays C O n d).before a0 Z = true ∨ ((Cond.laysFinal C O n d).before a0 Z = true ∧ own = O ∧ nm = "<init>")) (wi : (Cond.instantiable C kk).before a0 Z = true) (hty : parseFieldDescriptor d = some ty) (hn : narrow ty v = v) (hf : fits ty v = true) (ga : n0 ≤ a) (hd : decode bytes pc = .ok (.putfield i, 3)) (hp : pc + 3 = pc') (q : ∀ h', Wr h h' a (Jvm.RoadKit.slotOf Z O n d) v → Go p l e R s m args below meth c n0 h' ce sl (mkF m pc' Ls S) Q) : Go p l e R s m args below meth c n0 h ce sl (mkF m pc Ls (v :: .ref a :: S)) Q := by
  subst hp
  intro T L0 X N eT
  obtain ⟨T', h', X', e', W, st⟩ := putF X K.1 K.2.1 K.2.2.1 (host := "") (Or.inl w) via eT F E (L.imp id fun ⟨a, b, c⟩ => ⟨a, b, K.2.2.2.2.2.2.2.trans c⟩) wi hty hn hf (g := mkF m pc Ls (v :: .ref a :: S)) rfl rfl (hb K.2.2.2.1 hd)
  obtain ⟨s₂, u, L', a1, r⟩ := q h' W T' _ X' (Fr.snoc X' N ga) e'
  exact ⟨s₂, u, L', st _ a1, r⟩
theorem newObj (K : Cx Z own nm bytes ml ret p s m meth c) {i n : Nat} {C : String} (w : (Cond.classLink own i C).before a0 Z = true) (wi : (Cond.instantiable C n).before a0 Z = true) (wz : (Cond.initialized C).before a0 Z = true) (hd : decode bytes pc = .ok (.new i, 3)) (hc : ce + 1 ≤ R.cells) (hl : sl + n ≤ R.slots) (hp : pc + 3 = pc') (q : ∀ h' x, x = h.size → Ext h h' → Exa Z h' x C → (∀ {O nm d : String} {ty : FieldType}, Laid Z a0 C O nm d → parseFieldDescriptor d = some ty → Fld Z h' x O nm d (defaultValue ty)) → Go p l e R s m args below meth c n0 h' (ce + 1) (sl + n) (mkF m pc' Ls (.ref x :: S)) Q) : Go p l e R s m args below meth c n0 h ce sl (mkF m pc Ls S) Q := by
  subst hp
  intro T L0 X N eT
  obtain ⟨T', h', X', e', E, A, D, -, st⟩ := newO X K.1 K.2.1 K.2.2.1 w wi wz eT (g := mkF m pc Ls S) rfl (hb K.2.2.2.1 hd) hc hl
  obtain ⟨s₂, u, L', a1, r⟩ := q h' h.size rfl E A D T' _ X' N e'
  exact ⟨s₂, u, L', st _ a1, r⟩
theorem initObj (K : Cx Z own nm bytes ml ret p s m meth c) {i : Nat} {a : Addr} (w1 : (Cond.methodLink own i Lib.objectInit).before a0 Z = true) (w2 : (Cond.instanceMethod Lib.objectInit).before a0 Z = true) (w3 : (Cond.code Lib.objectInit ⟨#[0xb1]⟩ 1 none).before a0 Z = true) (hd : decode bytes pc = .ok (.invokespecial i, 3)) (hz : Ls.size = ml) (hf : 1 ≤ R.frames) (hW : (S.map fun v => v.category).sum + 12 ≤ R.locals) (hp : pc + 3 = pc') (q : Go p l e R s m args below meth c n0 h ce sl (mkF m pc' Ls S) Q) : Go p l e R s m args below meth c n0 h ce sl (mkF m pc Ls (.ref a :: S)) Q := by
  subst hp; exact oneT (fun T L X eT => initO X K.1 K.2.1 K.2.2.1 w1 w2 w3 eT rfl (hz.trans K.2.2.2.2.1.symm) rfl (hb K.2.2.2.1 hd) hf (W := (S.map fun v => v.category).sum) (by show 2 * 0 + _ ≤ _; omega) hW) q
/-- a private method's own 'selects' -/
theorem priv_sel {s : State} {args : Array Value} {y : MethodName} {kk : Nat} (wi : (Cond.instantiable y.cls kk).before args s = true) (hpriv : s.PrivateAt y) (hinst : (Cond.instanceMethod y).before args s = true) (hy : y.cls ≠ "java/lang/invoke/MethodHandle" ∧ y.cls ≠ "java/lang/invoke/VarHandle") : (Cond.selects y.cls y y).before args s = true := by
  obtain ⟨c2, k2, i1, i2, i3, i4⟩ := Cond.instantiable_spec wi
  exact selects_self_of_private i1 i2 (Bool.or_eq_false_iff.mp i4.1).1 hpriv hinst hy
/-! calls -/
theorem back {W len : Nat} {y : MethodName} {by' : ByteArray} {ml' : Nat} {ret' : Option FieldType} {rm : Room} {as' : Array Value} {Q' : Option Value → Heap → Prop} (K : Cx Z own nm bytes ml ret p s m meth c) (C : Ctr l Z y by' ml' ret' [] rm n0 as' h Q') (wc : (Cond.code y by' ml' ret').before a0 Z = true) (wz : (Cond.initialized y.cls).before a0 Z = true) (hf : rm.frames + 1 ≤ R.frames) (hl : W + (ml' + 11) + rm.locals ≤ R.locals) :
    Back l R p e below s args y len W (fun A a => a = as' ∧ A.U.heap = h ∧ A.cells + rm.cells ≤ R.cells ∧ A.slots + rm.slots ≤ R.slots) (fun A _ v B => ∃ L, (Q' v B.U.heap ∧ Fr n0 L) ∧ B.locs = A.locs ++ L ∧ B.cells = A.cells + rm.cells ∧ B.slots = A.slots + rm.slots) :=
  backOf (Q := fun v h L => Q' v h ∧ Fr n0 L) C K.2.1 wc wz hf hl
theorem callStatic (K : Cx Z own nm bytes ml ret p s m meth c) {i : Nat} {y : MethodName} {by' : ByteArray} {ml' : Nat} {ret' : Option FieldType} {rm : Room} {Q' : Option Value → Heap → Prop}  {argsL : List Value} (w1 : (Cond.methodLink own i y).before a0 Z = true) (w2 : (Cond.static y).before a0 Z = true) (wz : (Cond.initialized y.cls).before a0 Z = true) (wc : (Cond.code y by' ml' ret').before a0 Z = true) (hy : y.cls ≠ "java/lang/invoke/MethodHandle" ∧ y.cls ≠ "java/lang/invoke/VarHandle") (Cc : Ctr l Z y by' ml' ret' [] rm n0 argsL.toArray h Q') (hlen : ∀ sig, parseMethodDescriptor y.desc = some sig → argsL.length = sig.parameters.length) (hd : decode bytes pc = .ok (.invokestatic i, 3)) (hz : Ls.size = ml) (hf : rm.frames + 1 ≤ R.frames) (hW : (S.map fun v => v.category).sum + (ml' + 11) + rm.locals ≤ R.locals) (hc : ce + rm.cells ≤ R.cells) (hsl : sl + rm.slots ≤ R.slots) {st : List Value} (hst : st = (argsL.reverse ++ S)) (hp : pc + 3 = pc') (q : ∀ v h', Q' v h' → Go p l e R s m args below meth c n0 h' (ce + rm.cells) (sl + rm.slots) (mkF m pc' Ls (v.toList ++ S)) Q) : Go p l e R s m args below meth c n0 h ce sl (mkF m pc Ls st) Q := by
  subst hp hst
  intro T L0 X N eT
  obtain ⟨v, _, ⟨T', L1, k1, n1⟩, -, X', ⟨Lc, hQ, l', y', z'⟩, st'⟩ := Jvm.LawKit.callS X K.1 K.2.2.1 (mvT K.2.1 w1) (mvT K.2.1 w2) (mvT K.2.1 wz) (mvT K.2.1 wc) hy (back (W := (S.map fun v => v.category).sum) K Cc wc wz hf hW) (g := mkF m pc Ls (argsL.reverse ++ S)) rfl (hz.trans K.2.2.2.2.1.symm) (argsL := argsL) (rest := S) hlen rfl (by show 2 * 0 + _ ≤ _; omega) (hb K.2.2.2.1 hd) (fun _ _ => ⟨rfl, eT, hc, hsl⟩)
  dsimp only [Pt.U, Pt.locs, Pt.cells, Pt.slots] at X' l' y' z' st'
  subst l' y' z'
  obtain ⟨s₂, u, L', a1, r⟩ := q v _ hQ.1 T' _ X' (Fr.app N hQ.2) rfl
  exact ⟨s₂, u, L', st' _ a1, r⟩
theorem callInit (K : Cx Z own nm bytes ml ret p s m meth c) {i : Nat} {y : MethodName} {by' : ByteArray} {ml' : Nat} {ret' : Option FieldType} {rm : Room} {Q' : Option Value → Heap → Prop} {b : Addr} {argsL : List Value} (hy1 : y.name = "<init>") (w1 : (Cond.methodLink own i y).before a0 Z = true) (w2 : (Cond.instanceMethod y).before a0 Z = true) (wz : (Cond.initialized y.cls).before a0 Z = true) (wc : (Cond.code y by' ml' none).before a0 Z = true) (hr : ret' = none) (hy : y.cls ≠ "java/lang/invoke/MethodHandle" ∧ y.cls ≠ "java/lang/invoke/VarHandle") (Cc : Ctr l Z y by' ml' ret' [] rm n0 (.ref b :: argsL).toArray h Q') (hlen : ∀ sig, parseMethodDescriptor y.desc = some sig → argsL.length = sig.parameters.length) (hd : decode bytes pc = .ok (.invokespecial i, 3)) (hz : Ls.size = ml) (hf : rm.frames + 1 ≤ R.frames) (hW : (S.map fun v => v.category).sum + (ml' + 11) + rm.locals ≤ R.locals) (hc : ce + rm.cells ≤ R.cells) (hsl : sl + rm.slots ≤ R.slots) {st : List Value} (hst : st = (argsL.reverse ++ .ref b :: S)) (hp : pc + 3 = pc') (q : ∀ v h', Q' v h' → Go p l e R s m args below meth c n0 h' (ce + rm.cells) (sl + rm.slots) (mkF m pc' Ls (v.toList ++ S)) Q) : Go p l e R s m args below meth c n0 h ce sl (mkF m pc Ls st) Q := by
  subst hp hst
  intro T L0 X N eT
  subst hr
  obtain ⟨v, _, ⟨T', L1, k1, n1⟩, -, X', ⟨Lc, hQ, l', y', z'⟩, st'⟩ := X.specialBack K.1 hy1 K.2.2.1 (mvT K.2.1 w1) (mvT K.2.1 w2) (mvT K.2.1 wc) hy (back (W := (S.map fun v => v.category).sum) K Cc wc wz hf hW) (g := mkF m pc Ls (argsL.reverse ++ .ref b :: S)) rfl (hz.trans K.2.2.2.2.1.symm) (Steps.refl _) (a := b) (argsL := argsL) (rest := S) hlen rfl (by show 2 * 0 + _ ≤ _; omega) (hb K.2.2.2.1 hd) (fun _ _ => ⟨rfl, eT, hc, hsl⟩)
  dsimp only [Pt.U, Pt.locs, Pt.cells, Pt.slots] at X' l' y' z' st'
  subst l' y' z'
  obtain ⟨s₂, u, L', a1, r⟩ := q v _ hQ.1 T' _ X' (Fr.app N hQ.2) rfl
  exact ⟨s₂, u, L', st'.trans a1, r⟩
theorem callInitNest (K : Cx Z own nm bytes ml ret p s m meth c) {i : Nat} {y : MethodName} {by' : ByteArray} {ml' : Nat} {ret' : Option FieldType} {rm : Room} {Q' : Option Value → Heap → Prop} {b : Addr} {argsL : List Value} {host : String} (hy1 : y.name = "<init>") (w1 : (Cond.methodLinkNest own i y host).before a0 Z = true) (w2 : (Cond.instanceMethod y).before a0 Z = true) (wz : (Cond.initialized y.cls).before a0 Z = true) (wc : (Cond.code y by' ml' none).before a0 Z = true) (hr : ret' = none) (hy : y.cls ≠ "java/lang/invoke/MethodHandle" ∧ y.cls ≠ "java/lang/invoke/VarHandle") (Cc : Ctr l Z y by' ml' ret' [] rm n0 (.ref b :: argsL).toArray h Q') (hlen : ∀ sig, parseMethodDescriptor y.desc = some sig → argsL.length = sig.parameters.length) (hd : decode bytes pc = .ok (.invokespecial i, 3)) (hz : Ls.size = ml) (hf : rm.frames + 1 ≤ R.frames) (hW : (S.map fun v => v.category).sum + (ml' + 11) + rm.locals ≤ R.locals) (hc : ce + rm.cells ≤ R.cells) (hsl : sl + rm.slots ≤ R.slots) {st : List Value} (hst : st = (argsL.reverse ++ .ref b :: S)) (hp : pc + 3 = pc') (q : ∀ v h', Q' v h' → Go p l e R s m args below meth c n0 h' (ce + rm.cells) (sl + rm.slots) (mkF m pc' Ls (v.toList ++ S)) Q) : Go p l e R s m args below meth c n0 h ce sl (mkF m pc Ls st) Q := by
  subst hp hst
  intro T L0 X N eT
  subst hr
  obtain ⟨v, _, ⟨T', L1, k1, n1⟩, -, X', ⟨Lc, hQ, l', y', z'⟩, st'⟩ := X.specialBackNest K.1 hy1 K.2.2.1 (Cond.methodLinkNest_wide K.2.1 w1 :) (mvT K.2.1 w2) (mvT K.2.1 wc) hy (back (W := (S.map fun v => v.category).sum) K Cc wc wz hf hW) (g := mkF m pc Ls (argsL.reverse ++ .ref b :: S)) rfl (hz.trans K.2.2.2.2.1.symm) (Steps.refl _) (a := b) (argsL := argsL) (rest := S) hlen rfl (by show 2 * 0 + _ ≤ _; omega) (hb K.2.2.2.1 hd) (fun _ _ => ⟨rfl, eT, hc, hsl⟩)
  dsimp only [Pt.U, Pt.locs, Pt.cells, Pt.slots] at X' l' y' z' st'
  subst l' y' z'
  obtain ⟨s₂, u, L', a1, r⟩ := q v _ hQ.1 T' _ X' (Fr.app N hQ.2) rfl
  exact ⟨s₂, u, L', st'.trans a1, r⟩
theorem callVirt (K : Cx Z own nm bytes ml ret p s m meth c) {i : Nat} {y : MethodName} {by' : ByteArray} {ml' : Nat} {ret' : Option FieldType} {rm : Room} {Q' : Option Value → Heap → Prop} {b : Addr} {argsL : List Value} {C : String} (w1 : (Cond.methodLink own i y).before a0 Z = true) (w2 : (Cond.declares y).before a0 Z = true) (w3 : (Cond.selects C y y).before a0 Z = true) (w4 : (Cond.instanceMethod y).before a0 Z = true) (wz : (Cond.initialized y.cls).before a0 Z = true) (wc : (Cond.code y by' ml' ret').before a0 Z = true) (hy : y.cls ≠ "java/lang/invoke/MethodHandle" ∧ y.cls ≠ "java/lang/invoke/VarHandle") (E : Exa Z h b C) (Cc : Ctr l Z y by' ml' ret' [] rm n0 (.ref b :: argsL).toArray h Q') (hlen : ∀ sig, parseMethodDescriptor y.desc = some sig → argsL.length = sig.parameters.length) (hd : decode bytes pc = .ok (.invokevirtual i, 3)) (hz : Ls.size = ml) (hf : rm.frames + 1 ≤ R.frames) (hW : (S.map fun v => v.category).sum + (ml' + 11) + rm.locals ≤ R.locals) (hc : ce + rm.cells ≤ R.cells) (hsl : sl + rm.slots ≤ R.slots) {st : List Value} (hst : st = (argsL.reverse ++ .ref b :: S)) (hp : pc + 3 = pc') (q : ∀ v h', Q' v h' → Go p l e R s m args below meth c n0 h' (ce + rm.cells) (sl + rm.slots) (mkF m pc' Ls (v.toList ++ S)) Q) : Go p l e R s m args below meth c n0 h ce sl (mkF m pc Ls st) Q := by
  subst hp hst
  intro T L0 X N eT
  obtain ⟨cq, kq, qa, qb, qc⟩ := isOf K.2.1 eT E
  obtain ⟨v, _, ⟨T', L1, k1, n1⟩, -, X', ⟨Lc, hQ, l', y', z'⟩, st'⟩ := X.virtualBack K.1 (y := y) (z := y) K.2.2.1 (mvT K.2.1 w1) (mvT K.2.1 w2) (notFace_of_selects (args := #[]) (mvT K.2.1 w3)) (mvT K.2.1 w3) (mvT K.2.1 w4) hy (back (W := (S.map fun v => v.category).sum) K Cc wc wz hf hW) qa qc (g := mkF m pc Ls (argsL.reverse ++ .ref b :: S)) rfl (hz.trans K.2.2.2.2.1.symm) (Steps.refl _) (argsL := argsL) (rest := S) hlen rfl (by show 2 * 0 + _ ≤ _; omega) (hb K.2.2.2.1 hd) (fun _ _ => ⟨rfl, eT, hc, hsl⟩)
  dsimp only [Pt.U, Pt.locs, Pt.cells, Pt.slots] at X' l' y' z' st'
  subst l' y' z'
  obtain ⟨s₂, u, L', a1, r⟩ := q v _ hQ.1 T' _ X' (Fr.app N hQ.2) rfl
  exact ⟨s₂, u, L', st'.trans a1, r⟩
theorem callFace (K : Cx Z own nm bytes ml ret p s m meth c) {i cnt : Nat} {y : MethodName} {by' : ByteArray} {ml' : Nat} {ret' : Option FieldType} {rm : Room} {Q' : Option Value → Heap → Prop} {b : Addr} {argsL : List Value} {z : MethodName} {C : String} (w1 : (Cond.methodLink own i y).before a0 Z = true) (w2 : (Cond.declares y).before a0 Z = true) (w5 : (Cond.interfaceMethod y.cls y.cls y.name y.desc).before a0 Z = true) (k5 : ((Cond.interfaceMethod y.cls y.cls y.name y.desc).onTables && (Cond.interfaceMethod y.cls y.cls y.name y.desc).keepsFace) = true) (w3 : (Cond.selects C y z).before a0 Z = true) (w4 : (Cond.instanceMethod z).before a0 Z = true) (w6 : (Cond.publicMethod z).before a0 Z = true) (w7 : (Cond.unhidden C y.name y.desc).before a0 Z = true) (w8 : (Cond.castable C y.cls).before a0 Z = true) (wz : (Cond.initialized z.cls).before a0 Z = true) (wc : (Cond.code z by' ml' ret').before a0 Z = true) (hy : y.cls ≠ "java/lang/invoke/MethodHandle" ∧ y.cls ≠ "java/lang/invoke/VarHandle") (E : Exa Z h b C) (Cc : Ctr l Z z by' ml' ret' [] rm n0 (.ref b :: argsL).toArray h Q') (hlen : ∀ sig, parseMethodDescriptor y.desc = some sig → argsL.length = sig.parameters.length) (hd : decode bytes pc = .ok (.invokeinterface i cnt, 5)) (hz : Ls.size = ml) (hf : rm.frames + 1 ≤ R.frames) (hW : (S.map fun v => v.category).sum + (ml' + 11) + rm.locals ≤ R.locals) (hc : ce + rm.cells ≤ R.cells) (hsl : sl + rm.slots ≤ R.slots) {st : List Value} (hst : st = (argsL.reverse ++ .ref b :: S)) (hp : pc + 5 = pc') (q : ∀ v h', Q' v h' → Go p l e R s m args below meth c n0 h' (ce + rm.cells) (sl + rm.slots) (mkF m pc' Ls (v.toList ++ S)) Q) : Go p l e R s m args below meth c n0 h ce sl (mkF m pc Ls st) Q := by
  subst hp hst
  intro T L0 X N eT
  obtain ⟨cq, kq, qa, qb, qc⟩ := isOf K.2.1 eT E
  obtain ⟨v, _, ⟨T', L1, k1, n1⟩, -, X', ⟨Lc, hQ, l', y', z'⟩, st'⟩ := X.interfaceBack K.1 (xi := y) (y := z) K.2.2.1 (mvT K.2.1 w1) (mvT K.2.1 w2) (mvT K.2.1 w5 k5) (mvT K.2.1 w3) (mvT K.2.1 w4) (mvT K.2.1 w6) (mvT K.2.1 w7) (mvT K.2.1 w8) hy (back (W := (S.map fun v => v.category).sum) K Cc wc wz hf hW) qa qb qc (g := mkF m pc Ls (argsL.reverse ++ .ref b :: S)) rfl (hz.trans K.2.2.2.2.1.symm) (Steps.refl _) (argsL := argsL) (rest := S) hlen rfl (by show 2 * 0 + _ ≤ _; omega) (hb K.2.2.2.1 hd) (fun _ _ => ⟨rfl, eT, hc, hsl⟩)
  dsimp only [Pt.U, Pt.locs, Pt.cells, Pt.slots] at X' l' y' z' st'
  subst l' y' z'
  obtain ⟨s₂, u, L', a1, r⟩ := q v _ hQ.1 T' _ X' (Fr.app N hQ.2) rfl
  exact ⟨s₂, u, L', st'.trans a1, r⟩
theorem callPriv (K : Cx Z own nm bytes ml ret p s m meth c) {i : Nat} {y : MethodName} {by' : ByteArray} {ml' : Nat} {ret' : Option FieldType} {rm : Room} {Q' : Option Value → Heap → Prop} {b : Addr} {argsL : List Value} {C : String} {kk : Nat} (w1 : (Cond.methodLink own i y).before a0 Z = true) (w2 : (Cond.instanceMethod y).before a0 Z = true) (w3 : (Cond.privateMethod y).before a0 Z = true) (w5 : (Cond.instantiable y.cls kk).before a0 Z = true) (wz : (Cond.initialized y.cls).before a0 Z = true) (wc : (Cond.code y by' ml' ret').before a0 Z = true) (hy : y.cls ≠ "java/lang/invoke/MethodHandle" ∧ y.cls ≠ "java/lang/invoke/VarHandle") (E : Exa Z h b C) (Cc : Ctr l Z y by' ml' ret' [] rm n0 (.ref b :: argsL).toArray h Q') (hlen : ∀ sig, parseMethodDescriptor y.desc = some sig → argsL.length = sig.parameters.length) (hd : decode bytes pc = .ok (.invokevirtual i, 3)) (hz : Ls.size = ml) (hf : rm.frames + 1 ≤ R.frames) (hW : (S.map fun v => v.category).sum + (ml' + 11) + rm.locals ≤ R.locals) (hc : ce + rm.cells ≤ R.cells) (hsl : sl + rm.slots ≤ R.slots) {st : List Value} (hst : st = (argsL.reverse ++ .ref b :: S)) (hp : pc + 3 = pc') (q : ∀ v h', Q' v h' → Go p l e R s m args below meth c n0 h' (ce + rm.cells) (sl + rm.slots) (mkF m pc' Ls (v.toList ++ S)) Q) : Go p l e R s m args below meth c n0 h ce sl (mkF m pc Ls st) Q := by
  subst hp hst
  intro T L0 X N eT
  obtain ⟨cell, kc, f1, f2, f3, f4, -⟩ := E
  have hpr : s.PrivateAt y := Cond.privateMethod_at (mvP K.2.1 w3 (args := #[]))
  obtain ⟨v, _, ⟨T', L1, k1, n1⟩, -, X', ⟨Lc, hQ, l', y', z'⟩, st'⟩ := X.privateBack K.1 (y := y) K.2.2.1 (mvT K.2.1 w1) (mvT K.2.1 w2) (priv_sel (mvT K.2.1 w5) hpr (mvT K.2.1 w2) hy) hpr (mvT K.2.1 wc) hy (back (W := (S.map fun v => v.category).sum) K Cc wc wz hf hW) (g := mkF m pc Ls (argsL.reverse ++ .ref b :: S)) rfl (hz.trans K.2.2.2.2.1.symm) (Steps.refl _) (a := b) (by rw [eT]; exact f1) (fun q hq => by rw [hq] at f4; cases f4) (argsL := argsL) (rest := S) hlen rfl (by show 2 * 0 + _ ≤ _; omega) (hb K.2.2.2.1 hd) (fun _ _ => ⟨rfl, eT, hc, hsl⟩)
  dsimp only [Pt.U, Pt.locs, Pt.cells, Pt.slots] at X' l' y' z' st'
  subst l' y' z'
  obtain ⟨s₂, u, L', a1, r⟩ := q v _ hQ.1 T' _ X' (Fr.app N hQ.2) rfl
  exact ⟨s₂, u, L', st'.trans a1, r⟩
theorem retW (K : Cx Z own nm bytes ml ret p s m meth c) {t : FieldType} {w : Value} {i : Instr} (hi : (i = .ireturn ∧ (t = .int ∨ t = .boolean ∨ t = .byte ∨ t = .char ∨ t = .short) ∧ ∃ z, w = .int z) ∨ (i = .lreturn ∧ t = .long ∧ ∃ z, w = .long z) ∨ (i = .dreturn ∧ t = .double ∧ ∃ z, w = .double z) ∨ (i = .freturn ∧ t = .float ∧ ∃ z, w = .float z) ∨ (i = .areturn ∧ t.isReference = true ∧ w.isRef = true)) (hr : ret = some t) (hn : narrow t w = w) (hd : decode bytes pc = .ok (i, 1)) (hc : ce ≤ R.cells) (hsl : sl ≤ R.slots) (q : Q (some w) h) : Go p l e R s m args below meth c n0 h ce sl (mkF m pc Ls (w :: S)) Q := by
  intro T L0 X N eT
  obtain ⟨fs, hl, hrun, hended, hW, hsame⟩ := X.leave (v := some w) (fun q => by rw [K.2.2.2.2.2.1, hr] at q; cases q) K.2.2.2.2.2.2.1
  exact ⟨_, some w, L0, retOut X K.1 (K.2.2.2.2.2.1.trans hr) hn hi (hb K.2.2.2.1 hd) hl, hrun, hended, N, eT ▸ q, ⟨_, rfl⟩, hW, hsame.mono hc hsl⟩
theorem retV (K : Cx Z own nm bytes ml ret p s m meth c) (hr : ret = none) (hd : decode bytes pc = .ok (.return_, 1)) (hc : ce ≤ R.cells) (hsl : sl ≤ R.slots) (q : Q none h) : Go p l e R s m args below meth c n0 h ce sl (mkF m pc Ls []) Q := by
  intro T L0 X N eT
  obtain ⟨fs, hl, hrun, hended, hW, hsame⟩ := X.leave (v := none) (fun _ => rfl) K.2.2.2.2.2.2.1
  exact ⟨_, none, L0, X.returnOut K.1 (K.2.2.2.2.2.1.trans hr) (hb K.2.2.2.1 hd) hl, hrun, hended, N, eT ▸ q, ⟨_, rfl⟩, hW, hsame.mono hc hsl⟩
theorem retI (K : Cx Z own nm bytes ml ret p s m meth c) {z : Int32} (hr : ret = some .int) (hd : decode bytes pc = .ok (.ireturn, 1)) (hc : ce ≤ R.cells) (hsl : sl ≤ R.slots) (q : Q (some (.int z)) h) : Go p l e R s m args below meth c n0 h ce sl (mkF m pc Ls (.int z :: S)) Q := retW K (by exact Or.inl ⟨rfl, Or.inl rfl, _, rfl⟩) hr rfl hd hc hsl q
theorem retL (K : Cx Z own nm bytes ml ret p s m meth c) {z : Int64} (hr : ret = some .long) (hd : decode bytes pc = .ok (.lreturn, 1)) (hc : ce ≤ R.cells) (hsl : sl ≤ R.slots) (q : Q (some (.long z)) h) : Go p l e R s m args below meth c n0 h ce sl (mkF m pc Ls (.long z :: S)) Q := retW K (by exact Or.inr (Or.inl ⟨rfl, rfl, _, rfl⟩)) hr rfl hd hc hsl q
theorem retD (K : Cx Z own nm bytes ml ret p s m meth c) {z : UInt64} (hr : ret = some .double) (hd : decode bytes pc = .ok (.dreturn, 1)) (hc : ce ≤ R.cells) (hsl : sl ≤ R.slots) (q : Q (some (.double z)) h) : Go p l e R s m args below meth c n0 h ce sl (mkF m pc Ls (.double z :: S)) Q := retW K (by exact Or.inr (Or.inr (Or.inl ⟨rfl, rfl, _, rfl⟩))) hr rfl hd hc hsl q
theorem retA (K : Cx Z own nm bytes ml ret p s m meth c) {t : FieldType} {w : Value} (hr : ret = some t) (ht : t.isReference = true) (hw : w.isRef = true) (hd : decode bytes pc = .ok (.areturn, 1)) (hc : ce ≤ R.cells) (hsl : sl ≤ R.slots) (q : Q (some w) h) : Go p l e R s m args below meth c n0 h ce sl (mkF m pc Ls (w :: S)) Q := retW K (Or.inr (Or.inr (Or.inr (Or.inr ⟨rfl, ht, hw⟩)))) hr (by cases t <;> first | rfl | exact absurd ht (by decide)) hd hc hsl q
theorem retB (K : Cx Z own nm bytes ml ret p s m meth c) {t : FieldType} {z : Int32} (hr : ret = some t) (ht : t = .boolean ∨ t = .byte ∨ t = .char ∨ t = .short) (hd : decode bytes pc = .ok (.ireturn, 1)) (hc : ce ≤ R.cells) (hsl : sl ≤ R.slots) (q : Q (some (.int (nar t z))) h) : Go p l e R s m args below meth c n0 h ce sl (mkF m pc Ls (.int z :: S)) Q := by
  intro T L0 X N eT
  obtain ⟨fs, hl, hrun, hended, hW, hsame⟩ := X.leave (v := some (.int (nar t z))) (fun q => by rw [K.2.2.2.2.2.1, hr] at q; cases q) K.2.2.2.2.2.2.1
  exact ⟨_, some (.int (nar t z)), L0, retN X K.1 (t := t) (K.2.2.2.2.2.1.trans hr) ht (hb K.2.2.2.1 hd) hl, hrun, hended, N, eT ▸ q, ⟨_, rfl⟩, hW, hsame.mono hc hsl⟩
end Walk
/-! arrays -/
def Vec (Z : State) (h : Heap) (a : Addr) (ty : FieldType) (xs : List Value) : Prop := ∃ cl : Cell, Arr Z h a cl ty ∧ cl.slots.toList = xs ∧ xs.length < 2147483648
/-- an array of references, with what may lie in it -/
def VecR (Z : State) (h : Heap) (a : Addr) (C : String) (xs : List Value) : Prop := ∃ cl : Cell, Arr Z h a cl (.object C) ∧ cl.slots.toList = xs ∧ xs.length < 2147483648 ∧ Ovr Z cl.cls C
section Vecs
variable {Z : State} {h h' : Heap} {a b : Addr} {ty : FieldType} {xs : List Value} {v : Value} {sl : Nat} {ws : List Addr} {C : String}
theorem Vec.lt (F : Vec Z h a ty xs) : a < h.size := by obtain ⟨c, A, -⟩ := F; exact A.lt
theorem Vec.ext (F : Vec Z h a ty xs) (E : Ext h h') : Vec Z h' a ty xs := by obtain ⟨c, A, r⟩ := F; exact ⟨c, A.ext E, r⟩
theorem Vec.other (F : Vec Z h b ty xs) (W : Wr h h' a sl v) (q : b ≠ a) : Vec Z h' b ty xs := by obtain ⟨c, A, r⟩ := F; exact ⟨c, A.other W q, r⟩
theorem Vec.keep (F : Vec Z h a ty xs) (K : Keep h h' ws) (q : a ∉ ws) : Vec Z h' a ty xs := by obtain ⟨c, A, r⟩ := F; exact ⟨c, ⟨K.2.1 a c A.1 q, A.2⟩, r⟩
theorem Vec.set (F : Vec Z h a ty xs) {i : Nat} (W : Wr h h' a i v) : Vec Z h' a ty (xs.set i v) := by
  obtain ⟨c, A, rfl, r⟩ := F
  exact ⟨_, A.same W, by simp [Cell.setSlot], by simpa using r⟩
theorem Vec.len (F : Vec Z h a ty xs) : xs.length < 2147483648 := by obtain ⟨c, A, rfl, r⟩ := F; exact r
theorem VecR.lt (F : VecR Z h a C xs) : a < h.size := by obtain ⟨c, A, -⟩ := F; exact A.lt
theorem VecR.ext (F : VecR Z h a C xs) (E : Ext h h') : VecR Z h' a C xs := by obtain ⟨c, A, r⟩ := F; exact ⟨c, A.ext E, r⟩
theorem VecR.other (F : VecR Z h b C xs) (W : Wr h h' a sl v) (q : b ≠ a) : VecR Z h' b C xs := by obtain ⟨c, A, r⟩ := F; exact ⟨c, A.other W q, r⟩
theorem VecR.keep (F : VecR Z h a C xs) (K : Keep h h' ws) (q : a ∉ ws) : VecR Z h' a C xs := by obtain ⟨c, A, r⟩ := F; exact ⟨c, ⟨K.2.1 a c A.1 q, A.2⟩, r⟩
theorem VecR.vec (F : VecR Z h a C xs) : Vec Z h a (.object C) xs := by obtain ⟨c, A, r1, r2, -⟩ := F; exact ⟨c, A, r1, r2⟩
theorem VecR.set (F : VecR Z h a C xs) {i : Nat} (W : Wr h h' a i v) : VecR Z h' a C (xs.set i v) := by
  obtain ⟨c, A, rfl, r, o⟩ := F
  exact ⟨_, A.same W, by simp [Cell.setSlot], by simpa using r, o⟩
theorem clamp {j : Int32} {i : Nat} (hj : j.toInt = i) : j.toNatClampNeg = i ∧ ¬ j < 0 := by
  refine ⟨by simp [Int32.toNatClampNeg, hj], ?_⟩
  rw [Int32.lt_iff_toInt_lt, hj]; simp only [Int32.reduceToInt]; omega
end Vecs
def DV (Z : State) (h : Heap) (a : Addr) (xs : List UInt64) : Prop := Vec Z h a .double (xs.map Value.double)
theorem DV.lt {Z : State} {h : Heap} {a : Addr} {xs : List UInt64} (F : DV Z h a xs) : a < h.size := Vec.lt F
theorem DV.ext {Z : State} {h h' : Heap} {a : Addr} {xs : List UInt64} (F : DV Z h a xs) (E : Ext h h') : DV Z h' a xs := Vec.ext F E
theorem DV.other {Z : State} {h h' : Heap} {a b : Addr} {xs : List UInt64} {sl : Nat} {v : Value} (F : DV Z h b xs) (W : Wr h h' a sl v) (q : b ≠ a) : DV Z h' b xs := Vec.other F W q
theorem DV.keep {Z : State} {h h' : Heap} {a : Addr} {xs : List UInt64} {ws : List Addr} (F : DV Z h a xs) (K : Keep h h' ws) (q : a ∉ ws) : DV Z h' a xs := Vec.keep F K q
theorem DV.set {Z : State} {h h' : Heap} {a : Addr} {xs : List UInt64} {i : Nat} {x : UInt64} (F : DV Z h a xs) (W : Wr h h' a i (Value.double x)) : DV Z h' a (xs.set i x) := by
  have q := Vec.set F W
  rwa [← List.map_set] at q
def IV (Z : State) (h : Heap) (a : Addr) (xs : List Int32) : Prop := Vec Z h a .int (xs.map Value.int)
theorem IV.lt {Z : State} {h : Heap} {a : Addr} {xs : List Int32} (F : IV Z h a xs) : a < h.size := Vec.lt F
theorem IV.ext {Z : State} {h h' : Heap} {a : Addr} {xs : List Int32} (F : IV Z h a xs) (E : Ext h h') : IV Z h' a xs := Vec.ext F E
theorem IV.other {Z : State} {h h' : Heap} {a b : Addr} {xs : List Int32} {sl : Nat} {v : Value} (F : IV Z h b xs) (W : Wr h h' a sl v) (q : b ≠ a) : IV Z h' b xs := Vec.other F W q
theorem IV.keep {Z : State} {h h' : Heap} {a : Addr} {xs : List Int32} {ws : List Addr} (F : IV Z h a xs) (K : Keep h h' ws) (q : a ∉ ws) : IV Z h' a xs := Vec.keep F K q
theorem IV.set {Z : State} {h h' : Heap} {a : Addr} {xs : List Int32} {i : Nat} {x : Int32} (F : IV Z h a xs) (W : Wr h h' a i (Value.int x)) : IV Z h' a (xs.set i x) := by
  have q := Vec.set F W
  rwa [← List.map_set] at q
def JV (Z : State) (h : Heap) (a : Addr) (xs : List Int64) : Prop := Vec Z h a .long (xs.map Value.long)
theorem JV.lt {Z : State} {h : Heap} {a : Addr} {xs : List Int64} (F : JV Z h a xs) : a < h.size := Vec.lt F
theorem JV.ext {Z : State} {h h' : Heap} {a : Addr} {xs : List Int64} (F : JV Z h a xs) (E : Ext h h') : JV Z h' a xs := Vec.ext F E
theorem JV.other {Z : State} {h h' : Heap} {a b : Addr} {xs : List Int64} {sl : Nat} {v : Value} (F : JV Z h b xs) (W : Wr h h' a sl v) (q : b ≠ a) : JV Z h' b xs := Vec.other F W q
theorem JV.keep {Z : State} {h h' : Heap} {a : Addr} {xs : List Int64} {ws : List Addr} (F : JV Z h a xs) (K : Keep h h' ws) (q : a ∉ ws) : JV Z h' a xs := Vec.keep F K q
theorem JV.set {Z : State} {h h' : Heap} {a : Addr} {xs : List Int64} {i : Nat} {x : Int64} (F : JV Z h a xs) (W : Wr h h' a i (Value.long x)) : JV Z h' a (xs.set i x) := by
  have q := Vec.set F W
  rwa [← List.map_set] at q
def ZV (Z : State) (h : Heap) (a : Addr) (xs : List Int32) : Prop := Vec Z h a .boolean (xs.map Value.int)
theorem ZV.lt {Z : State} {h : Heap} {a : Addr} {xs : List Int32} (F : ZV Z h a xs) : a < h.size := Vec.lt F
theorem ZV.ext {Z : State} {h h' : Heap} {a : Addr} {xs : List Int32} (F : ZV Z h a xs) (E : Ext h h') : ZV Z h' a xs := Vec.ext F E
theorem ZV.other {Z : State} {h h' : Heap} {a b : Addr} {xs : List Int32} {sl : Nat} {v : Value} (F : ZV Z h b xs) (W : Wr h h' a sl v) (q : b ≠ a) : ZV Z h' b xs := Vec.other F W q
theorem ZV.keep {Z : State} {h h' : Heap} {a : Addr} {xs : List Int32} {ws : List Addr} (F : ZV Z h a xs) (K : Keep h h' ws) (q : a ∉ ws) : ZV Z h' a xs := Vec.keep F K q
theorem ZV.set {Z : State} {h h' : Heap} {a : Addr} {xs : List Int32} {i : Nat} {x : Int32} (F : ZV Z h a xs) (W : Wr h h' a i (Value.int x)) : ZV Z h' a (xs.set i x) := by
  have q := Vec.set F W
  rwa [← List.map_set] at q
theorem DV.new {Z : State} {h : Heap} {a : Addr} {N : Nat} (F : Vec Z h a (newarray.typeOf .double) (List.replicate N (defaultValue (newarray.typeOf .double)))) : DV Z h a (List.replicate N 0) := by
  unfold DV; rw [List.map_replicate]; exact F
theorem IV.new {Z : State} {h : Heap} {a : Addr} {N : Nat} (F : Vec Z h a (newarray.typeOf .int) (List.replicate N (defaultValue (newarray.typeOf .int)))) : IV Z h a (List.replicate N 0) := by
  unfold IV; rw [List.map_replicate]; exact F
theorem JV.new {Z : State} {h : Heap} {a : Addr} {N : Nat} (F : Vec Z h a (newarray.typeOf .long) (List.replicate N (defaultValue (newarray.typeOf .long)))) : JV Z h a (List.replicate N 0) := by
  unfold JV; rw [List.map_replicate]; exact F
theorem ZV.new {Z : State} {h : Heap} {a : Addr} {N : Nat} (F : Vec Z h a (newarray.typeOf .boolean) (List.replicate N (defaultValue (newarray.typeOf .boolean)))) : ZV Z h a (List.replicate N 0) := by
  unfold ZV; rw [List.map_replicate]; exact F
def HV (Z : State) (h : Heap) (a : Addr) (xs : List Nat) : Prop := Vec Z h a .int (xs.map (fun c : Nat => Value.int (Int32.ofNat c)))
theorem HV.lt {Z : State} {h : Heap} {a : Addr} {xs : List Nat} (F : HV Z h a xs) : a < h.size := Vec.lt F
theorem HV.ext {Z : State} {h h' : Heap} {a : Addr} {xs : List Nat} (F : HV Z h a xs) (E : Ext h h') : HV Z h' a xs := Vec.ext F E
theorem HV.other {Z : State} {h h' : Heap} {a b : Addr} {xs : List Nat} {sl : Nat} {v : Value} (F : HV Z h b xs) (W : Wr h h' a sl v) (q : b ≠ a) : HV Z h' b xs := Vec.other F W q
theorem HV.keep {Z : State} {h h' : Heap} {a : Addr} {xs : List Nat} {ws : List Addr} (F : HV Z h a xs) (K : Keep h h' ws) (q : a ∉ ws) : HV Z h' a xs := Vec.keep F K q
theorem HV.set {Z : State} {h h' : Heap} {a : Addr} {xs : List Nat} {i c : Nat} (F : HV Z h a xs) (W : Wr h h' a i (.int (Int32.ofNat c))) : HV Z h' a (xs.set i c) := by
  have q := Vec.set F W
  unfold HV
  rw [List.map_set]; exact q
theorem HV.new {Z : State} {h : Heap} {a : Addr} {N : Nat} (F : Vec Z h a (newarray.typeOf .int) (List.replicate N (defaultValue (newarray.typeOf .int)))) : HV Z h a (List.replicate N 0) := by
  unfold HV; rw [List.map_replicate]; exact F
theorem mapAt {α : Type} {f : α → Value} {xs : List α} {i : Nat} {x : α} (h : xs[i]? = some x) : (xs.map f)[i]? = some (f x) := by rw [List.getElem?_map, h]; rfl
theorem mapLt {α : Type} {f : α → Value} {xs : List α} {i : Nat} (h : i < xs.length) : i < (xs.map f).length := by rwa [List.length_map]
theorem getDAt {α : Type} {xs : List α} {i : Nat} {d : α} (h : i < xs.length) : xs[i]? = some (xs.getD i d) := by rw [List.getD_eq_getElem?_getD, List.getElem?_eq_getElem h]; rfl
section Walk2
variable {p : Program} {l : Launch} {e : Env} {R : Room} {s : State} {m : MethodId} {args : Array Value} {below : List Frame} {meth : Method} {c : Code} {Z : State} {a0 : Array Value} {own nm : String} {bytes : ByteArray} {ml : Nat} {ret : Option FieldType} {n0 ce sl pc pc' : Nat} {h : Heap} {Ls Ls' : Array Slot} {S : List Value} {Q : Option Value → Heap → Prop} {a : Addr} {ty : FieldType} {xs : List Value} {v : Value} {j : Int32} {i : Nat}
theorem inb {cl : Cell} (e1 : cl.slots.toList = xs) (hj : j.toInt = i) (hi : i < xs.length) : ¬ (j < 0 ∨ cl.slots.size ≤ j.toNatClampNeg) := by
  obtain ⟨q1, q2⟩ := clamp hj
  subst e1
  rw [q1]; simp at hi; intro q; rcases q with q | q
  · exact q2 q
  · omega
theorem inv {cl : Cell} (e1 : cl.slots.toList = xs) (hj : j.toInt = i) (hv : xs[i]? = some v) : cl.slots[j.toNatClampNeg]? = some v := by
  obtain ⟨q1, q2⟩ := clamp hj
  subst e1
  rw [q1]; simpa using hv
theorem ltOf (hv : xs[i]? = some v) : i < xs.length := (List.getElem?_eq_some_iff.mp hv).1
theorem iaload (K : Cx Z own nm bytes ml ret p s m meth c) (F : Vec Z h a .int xs) (hj : j.toInt = i) (hv : xs[i]? = some v) (hd : decode bytes pc = .ok (.iaload, 1)) (hp : pc + 1 = pc') (q : Go p l e R s m args below meth c n0 h ce sl (mkF m pc' Ls (v :: S)) Q) : Go p l e R s m args below meth c n0 h ce sl (mkF m pc Ls (.int j :: .ref a :: S)) Q := by
  subst hp; obtain ⟨cl, A, e1, e2⟩ := F
  exact one (fun T L X eT t => X.iaload K.1 (by rw [eT]; exact A.1) (State.isArrayOf_alike K.2.1.alike A.2.1) A.2.2 (inb e1 hj (ltOf hv)) (inv e1 hj hv) (g := mkF m pc Ls (.int j :: .ref a :: S)) rfl rfl (hb K.2.2.2.1 hd) t) q
theorem laload (K : Cx Z own nm bytes ml ret p s m meth c) (F : Vec Z h a .long xs) (hj : j.toInt = i) (hv : xs[i]? = some v) (hd : decode bytes pc = .ok (.laload, 1)) (hp : pc + 1 = pc') (q : Go p l e R s m args below meth c n0 h ce sl (mkF m pc' Ls (v :: S)) Q) : Go p l e R s m args below meth c n0 h ce sl (mkF m pc Ls (.int j :: .ref a :: S)) Q := by
  subst hp; obtain ⟨cl, A, e1, e2⟩ := F
  exact one (fun T L X eT t => X.laload K.1 (by rw [eT]; exact A.1) (State.isArrayOf_alike K.2.1.alike A.2.1) A.2.2 (inb e1 hj (ltOf hv)) (inv e1 hj hv) (g := mkF m pc Ls (.int j :: .ref a :: S)) rfl rfl (hb K.2.2.2.1 hd) t) q
theorem daload (K : Cx Z own nm bytes ml ret p s m meth c) (F : Vec Z h a .double xs) (hj : j.toInt = i) (hv : xs[i]? = some v) (hd : decode bytes pc = .ok (.daload, 1)) (hp : pc + 1 = pc') (q : Go p l e R s m args below meth c n0 h ce sl (mkF m pc' Ls (v :: S)) Q) : Go p l e R s m args below meth c n0 h ce sl (mkF m pc Ls (.int j :: .ref a :: S)) Q := by
  subst hp; obtain ⟨cl, A, e1, e2⟩ := F
  exact one (fun T L X eT t => X.daload K.1 (by rw [eT]; exact A.1) (State.isArrayOf_alike K.2.1.alike A.2.1) A.2.2 (inb e1 hj (ltOf hv)) (inv e1 hj hv) (g := mkF m pc Ls (.int j :: .ref a :: S)) rfl rfl (hb K.2.2.2.1 hd) t) q
theorem zaload (K : Cx Z own nm bytes ml ret p s m meth c) (F : Vec Z h a .boolean xs) (hj : j.toInt = i) (hv : xs[i]? = some v) (hd : decode bytes pc = .ok (.baload, 1)) (hp : pc + 1 = pc') (q : Go p l e R s m args below meth c n0 h ce sl (mkF m pc' Ls (v :: S)) Q) : Go p l e R s m args below meth c n0 h ce sl (mkF m pc Ls (.int j :: .ref a :: S)) Q := by
  subst hp; obtain ⟨cl, A, e1, e2⟩ := F
  exact one (fun T L X eT t => X.baloadBooleans K.1 (by rw [eT]; exact A.1) (State.isArrayOf_alike K.2.1.alike A.2.1) A.2.2 (inb e1 hj (ltOf hv)) (inv e1 hj hv) (g := mkF m pc Ls (.int j :: .ref a :: S)) rfl rfl (hb K.2.2.2.1 hd) t) q
theorem baload (K : Cx Z own nm bytes ml ret p s m meth c) (F : Vec Z h a .byte xs) (hj : j.toInt = i) (hv : xs[i]? = some v) (hd : decode bytes pc = .ok (.baload, 1)) (hp : pc + 1 = pc') (q : Go p l e R s m args below meth c n0 h ce sl (mkF m pc' Ls (v :: S)) Q) : Go p l e R s m args below meth c n0 h ce sl (mkF m pc Ls (.int j :: .ref a :: S)) Q := by
  subst hp; obtain ⟨cl, A, e1, e2⟩ := F
  exact one (fun T L X eT t => X.baloadBytes K.1 (by rw [eT]; exact A.1) (State.isArrayOf_alike K.2.1.alike A.2.1) A.2.2 (inb e1 hj (ltOf hv)) (inv e1 hj hv) (g := mkF m pc Ls (.int j :: .ref a :: S)) rfl rfl (hb K.2.2.2.1 hd) t) q
theorem aaload (K : Cx Z own nm bytes ml ret p s m meth c) (F : Vec Z h a ty xs) (ht : ty.isReference = true) (hj : j.toInt = i) (hv : xs[i]? = some v) (hd : decode bytes pc = .ok (.aaload, 1)) (hp : pc + 1 = pc') (q : Go p l e R s m args below meth c n0 h ce sl (mkF m pc' Ls (v :: S)) Q) : Go p l e R s m args below meth c n0 h ce sl (mkF m pc Ls (.int j :: .ref a :: S)) Q := by
  subst hp; obtain ⟨cl, A, e1, e2⟩ := F
  exact one (fun T L X eT t => X.aaload K.1 (by rw [eT]; exact A.1) (State.isArrayOf_alike K.2.1.alike A.2.1) ht A.2.2 (inb e1 hj (ltOf hv)) (inv e1 hj hv) (g := mkF m pc Ls (.int j :: .ref a :: S)) rfl rfl (hb K.2.2.2.1 hd) t) q
theorem alen (K : Cx Z own nm bytes ml ret p s m meth c) (F : Vec Z h a ty xs) (hd : decode bytes pc = .ok (.arraylength, 1)) (hp : pc + 1 = pc') (q : Go p l e R s m args below meth c n0 h ce sl (mkF m pc' Ls (.int xs.length.toInt32 :: S)) Q) : Go p l e R s m args below meth c n0 h ce sl (mkF m pc Ls (.ref a :: S)) Q := by
  subst hp; obtain ⟨cl, A, e1, e2⟩ := F
  have hz : cl.slots.size = xs.length := by rw [← e1]; simp
  rw [← hz] at q
  exact one (fun T L X eT t => X.arraylength K.1 (by rw [eT]; exact A.1) (State.isArrayOf_alike K.2.1.alike A.2.1) (g := mkF m pc Ls (.ref a :: S)) rfl rfl (hb K.2.2.2.1 hd) t) q
theorem iastore (K : Cx Z own nm bytes ml ret p s m meth c) {x : Int32} (F : Vec Z h a .int xs) (hj : j.toInt = i) (hi : i < xs.length) (ga : n0 ≤ a) (hd : decode bytes pc = .ok (.iastore, 1)) (hp : pc + 1 = pc') (q : ∀ h', Wr h h' a i (.int x) → Go p l e R s m args below meth c n0 h' ce sl (mkF m pc' Ls S) Q) : Go p l e R s m args below meth c n0 h ce sl (mkF m pc Ls (.int x :: .int j :: .ref a :: S)) Q := by
  subst hp; obtain ⟨cl, A, e1, e2⟩ := F
  intro T L0 X N eT
  obtain ⟨T', h', X', e', W, st⟩ := stI X K.1 K.2.1 eT A (inb e1 hj hi) (g := mkF m pc Ls (.int x :: .int j :: .ref a :: S)) rfl rfl (hb K.2.2.2.1 hd)
  rw [(clamp hj).1] at W
  obtain ⟨s₂, u, L', a1, r⟩ := q h' W T' _ X' (Fr.snoc X' N ga) e'
  exact ⟨s₂, u, L', st _ a1, r⟩
theorem lastore (K : Cx Z own nm bytes ml ret p s m meth c) {x : Int64} (F : Vec Z h a .long xs) (hj : j.toInt = i) (hi : i < xs.length) (ga : n0 ≤ a) (hd : decode bytes pc = .ok (.lastore, 1)) (hp : pc + 1 = pc') (q : ∀ h', Wr h h' a i (.long x) → Go p l e R s m args below meth c n0 h' ce sl (mkF m pc' Ls S) Q) : Go p l e R s m args below meth c n0 h ce sl (mkF m pc Ls (.long x :: .int j :: .ref a :: S)) Q := by
  subst hp; obtain ⟨cl, A, e1, e2⟩ := F
  intro T L0 X N eT
  obtain ⟨T', h', X', e', W, st⟩ := stJ X K.1 K.2.1 eT A (inb e1 hj hi) (g := mkF m pc Ls (.long x :: .int j :: .ref a :: S)) rfl rfl (hb K.2.2.2.1 hd)
  rw [(clamp hj).1] at W
  obtain ⟨s₂, u, L', a1, r⟩ := q h' W T' _ X' (Fr.snoc X' N ga) e'
  exact ⟨s₂, u, L', st _ a1, r⟩
theorem dastore (K : Cx Z own nm bytes ml ret p s m meth c) {x : UInt64} (F : Vec Z h a .double xs) (hj : j.toInt = i) (hi : i < xs.length) (ga : n0 ≤ a) (hd : decode bytes pc = .ok (.dastore, 1)) (hp : pc + 1 = pc') (q : ∀ h', Wr h h' a i (.double x) → Go p l e R s m args below meth c n0 h' ce sl (mkF m pc' Ls S) Q) : Go p l e R s m args below meth c n0 h ce sl (mkF m pc Ls (.double x :: .int j :: .ref a :: S)) Q := by
  subst hp; obtain ⟨cl, A, e1, e2⟩ := F
  intro T L0 X N eT
  obtain ⟨T', h', X', e', W, st⟩ := stD X K.1 K.2.1 eT A (inb e1 hj hi) (g := mkF m pc Ls (.double x :: .int j :: .ref a :: S)) rfl rfl (hb K.2.2.2.1 hd)
  rw [(clamp hj).1] at W
  obtain ⟨s₂, u, L', a1, r⟩ := q h' W T' _ X' (Fr.snoc X' N ga) e'
  exact ⟨s₂, u, L', st _ a1, r⟩
theorem zastore (K : Cx Z own nm bytes ml ret p s m meth c) {x : Int32} (F : Vec Z h a .boolean xs) (hj : j.toInt = i) (hi : i < xs.length) (ga : n0 ≤ a) (hd : decode bytes pc = .ok (.bastore, 1)) (hp : pc + 1 = pc') (q : ∀ h', Wr h h' a i (.int (nar .boolean x)) → Go p l e R s m args below meth c n0 h' ce sl (mkF m pc' Ls S) Q) : Go p l e R s m args below meth c n0 h ce sl (mkF m pc Ls (.int x :: .int j :: .ref a :: S)) Q := by
  subst hp; obtain ⟨cl, A, e1, e2⟩ := F
  intro T L0 X N eT
  obtain ⟨T', h', X', e', W, st⟩ := stZ X K.1 K.2.1 eT A (inb e1 hj hi) (g := mkF m pc Ls (.int x :: .int j :: .ref a :: S)) rfl rfl (hb K.2.2.2.1 hd)
  rw [(clamp hj).1] at W
  obtain ⟨s₂, u, L', a1, r⟩ := q h' W T' _ X' (Fr.snoc X' N ga) e'
  exact ⟨s₂, u, L', st _ a1, r⟩
theorem bastore (K : Cx Z own nm bytes ml ret p s m meth c) {x : Int32} (F : Vec Z h a .byte xs) (hj : j.toInt = i) (hi : i < xs.length) (ga : n0 ≤ a) (hd : decode bytes pc = .ok (.bastore, 1)) (hp : pc + 1 = pc') (q : ∀ h', Wr h h' a i (.int (nar .byte x)) → Go p l e R s m args below meth c n0 h' ce sl (mkF m pc' Ls S) Q) : Go p l e R s m args below meth c n0 h ce sl (mkF m pc Ls (.int x :: .int j :: .ref a :: S)) Q := by
  subst hp; obtain ⟨cl, A, e1, e2⟩ := F
  intro T L0 X N eT
  obtain ⟨T', h', X', e', W, st⟩ := stB X K.1 K.2.1 eT A (inb e1 hj hi) (g := mkF m pc Ls (.int x :: .int j :: .ref a :: S)) rfl rfl (hb K.2.2.2.1 hd)
  rw [(clamp hj).1] at W
  obtain ⟨s₂, u, L', a1, r⟩ := q h' W T' _ X' (Fr.snoc X' N ga) e'
  exact ⟨s₂, u, L', st _ a1, r⟩
theorem aastore (K : Cx Z own nm bytes ml ret p s m meth c) {C : String} (F : VecR Z h a C xs) (hS : v = .null ∨ ∃ y, v = .ref y ∧ Ins Z h y C true) (hj : j.toInt = i) (hi : i < xs.length) (ga : n0 ≤ a) (hd : decode bytes pc = .ok (.aastore, 1)) (hp : pc + 1 = pc') (q : ∀ h', Wr h h' a i v → Go p l e R s m args below meth c n0 h' ce sl (mkF m pc' Ls S) Q) : Go p l e R s m args below meth c n0 h ce sl (mkF m pc Ls (v :: .int j :: .ref a :: S)) Q := by
  subst hp; obtain ⟨cl, A, e1, e2, O⟩ := F
  intro T L0 X N eT
  have hSt : Sto Z h a v := by
    rcases hS with rfl | ⟨y, rfl, I⟩
    · exact Or.inl rfl
    · exact Sto.of A O I
  obtain ⟨T', h', X', e', W, st⟩ := stR X K.1 K.2.1 eT A (inb e1 hj hi) rfl hSt (g := mkF m pc Ls (v :: .int j :: .ref a :: S)) rfl rfl (hb K.2.2.2.1 hd)
  rw [(clamp hj).1] at W
  obtain ⟨s₂, u, L', a1, r⟩ := q h' W T' _ X' (Fr.snoc X' N ga) e'
  exact ⟨s₂, u, L', st _ a1, r⟩
theorem newArr (K : Cx Z own nm bytes ml ret p s m meth c) {aty : ArrayType} {n : Int32} {N : Nat} (w : (Cond.arrayClass (newarray.typeOf aty)).before a0 Z = true) (hn : n.toInt = N) (hb : N * 8 ≤ 536870912) (hd : decode bytes pc = .ok (.newarray aty, 2)) (hc : ce + 1 ≤ R.cells) (hl : sl + N ≤ R.slots) (hp : pc + 2 = pc') (q : ∀ h' x, x = h.size → Ext h h' → Vec Z h' x (newarray.typeOf aty) (List.replicate N (defaultValue (newarray.typeOf aty))) → Go p l e R s m args below meth c n0 h' (ce + 1) (sl + N) (mkF m pc' Ls (.ref x :: S)) Q) : Go p l e R s m args below meth c n0 h ce sl (mkF m pc Ls (.int n :: S)) Q := by
  subst hp
  obtain ⟨c1, c2⟩ := clamp hn
  intro T L0 X N0 eT
  obtain ⟨T', h', cA, X', e', E, A, st⟩ := newP X K.1 K.2.1 w eT (g := mkF m pc Ls (.int n :: S)) rfl (Jvm.hb K.2.2.2.1 hd) rfl c2 (cap := N) (Nat.le_of_eq c1) hb hc hl
  obtain ⟨s₂, u, L', a1, r⟩ := q h' h.size rfl E ⟨_, A, by simp [newA, c1], by simp; omega⟩ T' _ X' N0 e'
  exact ⟨s₂, u, L', st _ a1, r⟩
theorem newArrC (K : Cx Z own nm bytes ml ret p s m meth c) {aty : ArrayType} {n : Int32} {N cap : Nat} (w : (Cond.arrayClass (newarray.typeOf aty)).before a0 Z = true) (hn : n.toInt = N) (hcap : N ≤ cap) (hb : cap * 8 ≤ 536870912) (hd : decode bytes pc = .ok (.newarray aty, 2)) (hc : ce + 1 ≤ R.cells) (hl : sl + cap ≤ R.slots) (hp : pc + 2 = pc') (q : ∀ h' x, x = h.size → Ext h h' → Vec Z h' x (newarray.typeOf aty) (List.replicate N (defaultValue (newarray.typeOf aty))) → Go p l e R s m args below meth c n0 h' (ce + 1) (sl + cap) (mkF m pc' Ls (.ref x :: S)) Q) : Go p l e R s m args below meth c n0 h ce sl (mkF m pc Ls (.int n :: S)) Q := by
  subst hp
  obtain ⟨c1, c2⟩ := clamp hn
  intro T L0 X N0 eT
  obtain ⟨T', h', cA, X', e', E, A, st⟩ := newP X K.1 K.2.1 w eT (g := mkF m pc Ls (.int n :: S)) rfl (Jvm.hb K.2.2.2.1 hd) rfl c2 (cap := cap) (by omega) hb hc hl
  obtain ⟨s₂, u, L', a1, r⟩ := q h' h.size rfl E ⟨_, A, by simp [newA, c1], by simp; omega⟩ T' _ X' N0 e'
  exact ⟨s₂, u, L', st _ a1, r⟩
theorem newArrR (K : Cx Z own nm bytes ml ret p s m meth c) {k : Nat} {C : String} {n : Int32} {N : Nat} (w1 : (Cond.classLink own k C).before a0 Z = true) (w2 : (Cond.arrayOver (.object C)).before a0 Z = true) (hn : n.toInt = N) (hb : N * 8 ≤ 536870912) (hd : decode bytes pc = .ok (.anewarray k, 3)) (hc : ce + 1 ≤ R.cells) (hl : sl + N ≤ R.slots) (hp : pc + 3 = pc') (q : ∀ h' x, x = h.size → Ext h h' → VecR Z h' x C (List.replicate N .null) → Go p l e R s m args below meth c n0 h' (ce + 1) (sl + N) (mkF m pc' Ls (.ref x :: S)) Q) : Go p l e R s m args below meth c n0 h ce sl (mkF m pc Ls (.int n :: S)) Q := by
  subst hp
  obtain ⟨c1, c2⟩ := clamp hn
  intro T L0 X N0 eT
  obtain ⟨T', h', cA, X', e', E, A, O, st⟩ := newR X K.1 K.2.1 K.2.2.1 w1 w2 eT (g := mkF m pc Ls (.int n :: S)) rfl (Jvm.hb K.2.2.2.1 hd) rfl c2 (cap := N) (Nat.le_of_eq c1) hb hc hl
  obtain ⟨s₂, u, L', a1, r⟩ := q h' h.size rfl E ⟨_, A, by simp [newA, c1, defaultValue], by simp; omega, O⟩ T' _ X' N0 e'
  exact ⟨s₂, u, L', st _ a1, r⟩
theorem cast' (K : Cx Z own nm bytes ml ret p s m meth c) {k : Nat} {K' : String} (w : (Cond.classLink own k K').before a0 Z = true) (F : Ins Z h a K' true) (hd : decode bytes pc = .ok (.checkcast k, 3)) (hp : pc + 3 = pc') (q : Go p l e R s m args below meth c n0 h ce sl (mkF m pc' Ls (.ref a :: S)) Q) : Go p l e R s m args below meth c n0 h ce sl (mkF m pc Ls (.ref a :: S)) Q := by
  subst hp; exact oneT (fun T L X eT => castY X K.1 K.2.1 K.2.2.1 w eT F (g := mkF m pc Ls (.ref a :: S)) rfl rfl (hb K.2.2.2.1 hd)) q
end Walk2
/-- a body's walk is its contract -/
theorem ctr {l : Launch} {Z : State} {y : MethodName} {bytes : ByteArray} {ml : Nat} {ret : Option FieldType} {ws : List Cond} {rm : Room} {n0 : Nat} {as' : Array Value} {h : Heap} {Q : Option Value → Heap → Prop} {own nm : String} (ho : y.cls = own) (hn : y.name = nm) {Ls : Array Slot} (hpl : plainFor y = true) (hef : ∀ m : MethodId, entryFrame m as' ml = mkF m 0 Ls [])
    (body : ∀ (p : Program) (e : Env) (s : State) (m : MethodId) (below : List Frame) (meth : Method) (c : Code), Cx Z own nm bytes ml ret p s m meth c → s.heap = h → Go p l e rm s m as' below meth c n0 h 0 0 (mkF m 0 Ls []) Q) : Ctr l Z y bytes ml ret ws rm n0 as' h Q := by
  subst ho hn
  refine MetFree.of_bodySF hpl hisR ?_
  intro p e s m args below meth c s₁ Bd hml hP hK
  obtain ⟨rfl, hZ, hh⟩ := hP
  have X0 : Stand p l e rm s m _ below meth c s₁ [] 0 0 := Stand.of_body Bd
  have e0 : s₁.heap = h := by rw [← hh, Bd.state]; rfl
  obtain ⟨s₂, v, L', a1, a2, a3, a4, a5, a6⟩ := body p e s m below meth c ⟨Bd.exec, hZ, findClass_of_methodNamed Bd.named, Bd.bytes, hml, Bd.returns, BodyLoose.notSynchronized Bd, (name_of_methodNamed Bd.named Bd.method).1⟩ hh s₁ [] X0 (Fr.nil n0) e0
  exact ⟨s₂, _, castTop (hef m) a1, a2, a3, v, L', rfl, ⟨a5, a4⟩, a6⟩
/-- a term that the case sets equal to a double -/
theorem eqD {args : Array Value} {first s : State} {o : Option Outcome} {idx : List Nat} {a b : Term} {n : UInt64} (h : (Cond.eq a b).value args first o s idx = some true) (hb : b.eval args first o idx s = some (.double n)) : a.eval args first o idx s = some (.double n) := by
  simp only [Cond.value, hb] at h
  cases ha : a.eval args first o idx s with
  | none => simp [ha] at h
  | some x => cases x <;> simp [ha] at h ⊢; exact h
/-- a term that the case sets equal to a reference -/
theorem eqR {args : Array Value} {first s : State} {o : Option Outcome} {idx : List Nat} {a b : Term} {n : Addr} (h : (Cond.eq a b).value args first o s idx = some true) (hb : b.eval args first o idx s = some (.ref n)) : a.eval args first o idx s = some (.ref n) := by
  simp only [Cond.value, hb] at h
  cases ha : a.eval args first o idx s with
  | none => simp [ha] at h
  | some x => cases x <;> simp [ha] at h ⊢; exact h
theorem eqI {args : Array Value} {first s : State} {o : Option Outcome} {idx : List Nat} {a b : Term} {n : Int32} (h : (Cond.eq a b).value args first o s idx = some true) (hb : b.eval args first o idx s = some (.int n)) : a.eval args first o idx s = some (.int n) := by
  simp only [Cond.value, hb] at h
  cases ha : a.eval args first o idx s with
  | none => simp [ha] at h
  | some x => cases x <;> simp [ha] at h ⊢; exact h
/-! the branch behind a comparison of doubles -/
def dge (r : Option Ordering) : Prop := r = some .eq ∨ r = some .gt
def dle (r : Option Ordering) : Prop := r = some .lt ∨ r = some .eq
section Dd
variable {r : Option Ordering}
theorem dd_l_eq_t (h : r = some .eq) : ifCond.holds .eq (cmpValue r .l) = true := by
  revert h; try unfold dge
  try unfold dle
  rcases r with _ | (_ | _ | _) <;> decide
theorem dd_l_eq_f (h : ¬ r = some .eq) : ifCond.holds .eq (cmpValue r .l) = false := by
  revert h; try unfold dge
  try unfold dle
  rcases r with _ | (_ | _ | _) <;> decide
theorem dd_l_ne_t (h : ¬ r = some .eq) : ifCond.holds .ne (cmpValue r .l) = true := by
  revert h; try unfold dge
  try unfold dle
  rcases r with _ | (_ | _ | _) <;> decide
theorem dd_l_ne_f (h : r = some .eq) : ifCond.holds .ne (cmpValue r .l) = false := by
  revert h; try unfold dge
  try unfold dle
  rcases r with _ | (_ | _ | _) <;> decide
theorem dd_l_lt_t (h : ¬ dge r) : ifCond.holds .lt (cmpValue r .l) = true := by
  revert h; try unfold dge
  try unfold dle
  rcases r with _ | (_ | _ | _) <;> decide
theorem dd_l_lt_f (h : dge r) : ifCond.holds .lt (cmpValue r .l) = false := by
  revert h; try unfold dge
  try unfold dle
  rcases r with _ | (_ | _ | _) <;> decide
theorem dd_l_ge_t (h : dge r) : ifCond.holds .ge (cmpValue r .l) = true := by
  revert h; try unfold dge
  try unfold dle
  rcases r with _ | (_ | _ | _) <;> decide
theorem dd_l_ge_f (h : ¬ dge r) : ifCond.holds .ge (cmpValue r .l) = false := by
  revert h; try unfold dge
  try unfold dle
  rcases r with _ | (_ | _ | _) <;> decide
theorem dd_l_gt_t (h : r = some .gt) : ifCond.holds .gt (cmpValue r .l) = true := by
  revert h; try unfold dge
  try unfold dle
  rcases r with _ | (_ | _ | _) <;> decide
theorem dd_l_gt_f (h : ¬ r = some .gt) : ifCond.holds .gt (cmpValue r .l) = false := by
  revert h; try unfold dge
  try unfold dle
  rcases r with _ | (_ | _ | _) <;> decide
theorem dd_l_le_t (h : ¬ r = some .gt) : ifCond.holds .le (cmpValue r .l) = true := by
  revert h; try unfold dge
  try unfold dle
  rcases r with _ | (_ | _ | _) <;> decide
theorem dd_l_le_f (h : r = some .gt) : ifCond.holds .le (cmpValue r .l) = false := by
  revert h; try unfold dge
  try unfold dle
  rcases r with _ | (_ | _ | _) <;> decide
theorem dd_g_eq_t (h : r = some .eq) : ifCond.holds .eq (cmpValue r .g) = true := by
  revert h; try unfold dge
  try unfold dle
  rcases r with _ | (_ | _ | _) <;> decide
theorem dd_g_eq_f (h : ¬ r = some .eq) : ifCond.holds .eq (cmpValue r .g) = false := by
  revert h; try unfold dge
  try unfold dle
  rcases r with _ | (_ | _ | _) <;> decide
theorem dd_g_ne_t (h : ¬ r = some .eq) : ifCond.holds .ne (cmpValue r .g) = true := by
  revert h; try unfold dge
  try unfold dle
  rcases r with _ | (_ | _ | _) <;> decide
theorem dd_g_ne_f (h : r = some .eq) : ifCond.holds .ne (cmpValue r .g) = false := by
  revert h; try unfold dge
  try unfold dle
  rcases r with _ | (_ | _ | _) <;> decide
theorem dd_g_lt_t (h : r = some .lt) : ifCond.holds .lt (cmpValue r .g) = true := by
  revert h; try unfold dge
  try unfold dle
  rcases r with _ | (_ | _ | _) <;> decide
theorem dd_g_lt_f (h : ¬ r = some .lt) : ifCond.holds .lt (cmpValue r .g) = false := by
  revert h; try unfold dge
  try unfold dle
  rcases r with _ | (_ | _ | _) <;> decide
theorem dd_g_ge_t (h : ¬ r = some .lt) : ifCond.holds .ge (cmpValue r .g) = true := by
  revert h; try unfold dge
  try unfold dle
  rcases r with _ | (_ | _ | _) <;> decide
theorem dd_g_ge_f (h : r = some .lt) : ifCond.holds .ge (cmpValue r .g) = false := by
  revert h; try unfold dge
  try unfold dle
  rcases r with _ | (_ | _ | _) <;> decide
theorem dd_g_gt_t (h : ¬ dle r) : ifCond.holds .gt (cmpValue r .g) = true := by
  revert h; try unfold dge
  try unfold dle
  rcases r with _ | (_ | _ | _) <;> decide
theorem dd_g_gt_f (h : dle r) : ifCond.holds .gt (cmpValue r .g) = false := by
  revert h; try unfold dge
  try unfold dle
  rcases r with _ | (_ | _ | _) <;> decide
theorem dd_g_le_t (h : dle r) : ifCond.holds .le (cmpValue r .g) = true := by
  revert h; try unfold dge
  try unfold dle
  rcases r with _ | (_ | _ | _) <;> decide
theorem dd_g_le_f (h : ¬ dle r) : ifCond.holds .le (cmpValue r .g) = false := by
  revert h; try unfold dge
  try unfold dle
  rcases r with _ | (_ | _ | _) <;> decide
end Dd
end Jvm.OwnWp
namespace Jvm.OwnHeap
open Jvm.FP.Core
theorem gs {α : Type} {l : List α} {i : Nat} (h : i < l.length) (x d : α) (j : Nat) : (l.set i x).getD j d = if j = i then x else l.getD j d := by
  rw [List.getD_eq_getElem?_getD, List.getD_eq_getElem?_getD, List.getElem?_set]
  by_cases e : j = i
  · subst e; rw [if_pos rfl, if_pos h, if_pos rfl]; rfl
  · rw [if_neg (fun q => e q.symm), if_neg e]
theorem gt_take {α : Type} (l : List α) (n i : Nat) (d : α) (h : i < n) : (l.take n).getD i d = l.getD i d := by
  rw [List.getD_eq_getElem?_getD, List.getD_eq_getElem?_getD, List.getElem?_take, if_pos h]
theorem gi {α : Type} (l : List α) (i : Nat) (d : α) (h : i < l.length) : l.getD i d = l[i] := by
  rw [List.getD_eq_getElem?_getD, List.getElem?_eq_getElem h]; rfl
/-- two places change their places -/
theorem swapPerm {α : Type} (l : List α) (d : α) {i j : Nat} (hi : i < l.length) (hj : j < l.length) : ((l.set i (l.getD j d)).set j (l.getD i d)).Perm l := by
  rw [gi l i d hi, gi l j d hj]; exact List.set_set_perm hi hj
theorem takeSwap {α : Type} (l : List α) (d : α) {n i j : Nat} (hn : n ≤ l.length) (hi : i < n) (hj : j < n) : (((l.set i (l.getD j d)).set j (l.getD i d)).take n).Perm (l.take n) := by
  rw [List.take_set, List.take_set, ← gt_take l n i d hi, ← gt_take l n j d hj]
  have hl : (l.take n).length = n := by rw [List.length_take]; omega
  exact swapPerm (l.take n) d (by omega) (by omega)
/-- a double's place in the order -/
def kv (a : UInt64) : Int := zval b64 (val64 a)
def Num (a : UInt64) : Prop := val64 a ≠ .nan
theorem cmp_gt {a b : UInt64} (ha : Num a) (hb : Num b) : Jvm.FP.dcmp a b = some .gt ↔ kv b < kv a := ⟨fun h => (dcmp_gt.mp h).2.2, fun h => dcmp_gt.mpr ⟨ha, hb, h⟩⟩
theorem cmp_lt {a b : UInt64} (ha : Num a) (hb : Num b) : Jvm.FP.dcmp a b = some .lt ↔ kv a < kv b := ⟨fun h => (dcmp_lt.mp h).2.2, fun h => dcmp_lt.mpr ⟨ha, hb, h⟩⟩
theorem cmp_eq {a b : UInt64} (ha : Num a) (hb : Num b) : Jvm.FP.dcmp a b = some .eq ↔ kv a = kv b := ⟨fun h => (dcmp_eq.mp h).2.2, fun h => dcmp_eq.mpr ⟨ha, hb, h⟩⟩
theorem cmp_ge {a b : UInt64} (ha : Num a) (hb : Num b) : Jvm.OwnWp.dge (Jvm.FP.dcmp a b) ↔ kv b ≤ kv a := by
  unfold Jvm.OwnWp.dge
  rw [cmp_eq ha hb, cmp_gt ha hb]; omega
theorem cmp_le {a b : UInt64} (ha : Num a) (hb : Num b) : Jvm.OwnWp.dle (Jvm.FP.dcmp a b) ↔ kv a ≤ kv b := by
  unfold Jvm.OwnWp.dle
  rw [cmp_eq ha hb, cmp_lt ha hb]; omega
theorem num_int {i : Int} {a : UInt64} (h : DInt i a) : Num a := DInt_ne_nan h
theorem kv_int {i : Int} {a : UInt64} (h : DInt i a) : kv a = i * (one64 : Int) := DInt_zval h
end Jvm.OwnHeap
namespace Jvm.Pilot.@@N@@
open Jvm Jvm.ClassFile Sem Op Lib Jvm.Free Jvm.Stand Jvm.LawKit Jvm.RoadKit Bundle Jvm.Pilot.@@N@@.Jvm.D Jvm.OwnWp

theorem d_jdk_65_method_103_0 : decode jdk_65_method_103_code 0 = .ok (.iconst 0, 1) := by decide +kernel
theorem d_jdk_65_method_103_1 : decode jdk_65_method_103_code 1 = .ok (.istore_n 2, 1) := by decide +kernel
theorem d_jdk_65_method_103_2 : decode jdk_65_method_103_code 2 = .ok (.aload_n 0, 1) := by decide +kernel
theorem d_jdk_65_method_103_3 : decode jdk_65_method_103_code 3 = .ok (.arraylength, 1) := by decide +kernel
theorem d_jdk_65_method_103_4 : decode jdk_65_method_103_code 4 = .ok (.istore_n 3, 1) := by decide +kernel
theorem d_jdk_65_method_103_5 : decode jdk_65_method_103_code 5 = .ok (.iload_n 2, 1) := by decide +kernel
theorem d_jdk_65_method_103_6 : decode jdk_65_method_103_code 6 = .ok (.iload_n 3, 1) := by decide +kernel
theorem d_jdk_65_method_103_7 : decode jdk_65_method_103_code 7 = .ok (.if_icmp .ge 13, 3) := by decide +kernel
theorem d_jdk_65_method_103_10 : decode jdk_65_method_103_code 10 = .ok (.aload_n 0, 1) := by decide +kernel
theorem d_jdk_65_method_103_11 : decode jdk_65_method_103_code 11 = .ok (.iload_n 2, 1) := by decide +kernel
theorem d_jdk_65_method_103_12 : decode jdk_65_method_103_code 12 = .ok (.iload_n 1, 1) := by decide +kernel
theorem d_jdk_65_method_103_13 : decode jdk_65_method_103_code 13 = .ok (.iastore, 1) := by decide +kernel
theorem d_jdk_65_method_103_14 : decode jdk_65_method_103_code 14 = .ok (.iinc 2 1, 3) := by decide +kernel
theorem d_jdk_65_method_103_17 : decode jdk_65_method_103_code 17 = .ok (.goto (-12), 3) := by decide +kernel
theorem d_jdk_65_method_103_20 : decode jdk_65_method_103_code 20 = .ok (.return_, 1) := by decide +kernel
theorem d_method_2_0 : decode method_2_code 0 = .ok (.aload_n 0, 1) := by decide +kernel
theorem d_method_2_1 : decode method_2_code 1 = .ok (.iload_n 1, 1) := by decide +kernel
theorem d_method_2_2 : decode method_2_code 2 = .ok (.invokevirtual 7, 3) := by decide +kernel
theorem d_method_2_5 : decode method_2_code 5 = .ok (.iload_n 2, 1) := by decide +kernel
theorem d_method_2_6 : decode method_2_code 6 = .ok (.iconst 1, 1) := by decide +kernel
theorem d_method_2_7 : decode method_2_code 7 = .ok (.if_icmp .le 8, 3) := by decide +kernel
theorem d_method_2_10 : decode method_2_code 10 = .ok (.aload_n 0, 1) := by decide +kernel
theorem d_method_2_11 : decode method_2_code 11 = .ok (.iload_n 1, 1) := by decide +kernel
theorem d_method_2_12 : decode method_2_code 12 = .ok (.invokevirtual 7, 3) := by decide +kernel
theorem d_method_2_15 : decode method_2_code 15 = .ok (.iload_n 2, 1) := by decide +kernel
theorem d_method_2_16 : decode method_2_code 16 = .ok (.iconst 2, 1) := by decide +kernel
theorem d_method_2_17 : decode method_2_code 17 = .ok (.if_icmp .le 8, 3) := by decide +kernel
theorem d_method_2_20 : decode method_2_code 20 = .ok (.aload_n 0, 1) := by decide +kernel
theorem d_method_2_21 : decode method_2_code 21 = .ok (.iload_n 1, 1) := by decide +kernel
theorem d_method_2_22 : decode method_2_code 22 = .ok (.invokevirtual 7, 3) := by decide +kernel
theorem d_method_2_25 : decode method_2_code 25 = .ok (.return_, 1) := by decide +kernel
theorem d_method_3_0 : decode method_3_code 0 = .ok (.iload_n 1, 1) := by decide +kernel
theorem d_method_3_1 : decode method_3_code 1 = .ok (.ifCond .le 7, 3) := by decide +kernel
theorem d_method_3_4 : decode method_3_code 4 = .ok (.aload_n 0, 1) := by decide +kernel
theorem d_method_3_5 : decode method_3_code 5 = .ok (.invokevirtual 13, 3) := by decide +kernel
theorem d_method_3_8 : decode method_3_code 8 = .ok (.iload_n 1, 1) := by decide +kernel
theorem d_method_3_9 : decode method_3_code 9 = .ok (.iconst 1, 1) := by decide +kernel
theorem d_method_3_10 : decode method_3_code 10 = .ok (.if_icmp .le 7, 3) := by decide +kernel
theorem d_method_3_13 : decode method_3_code 13 = .ok (.aload_n 0, 1) := by decide +kernel
theorem d_method_3_14 : decode method_3_code 14 = .ok (.invokevirtual 13, 3) := by decide +kernel
theorem d_method_3_17 : decode method_3_code 17 = .ok (.iload_n 1, 1) := by decide +kernel
theorem d_method_3_18 : decode method_3_code 18 = .ok (.iconst 2, 1) := by decide +kernel
theorem d_method_3_19 : decode method_3_code 19 = .ok (.if_icmp .le 7, 3) := by decide +kernel
theorem d_method_3_22 : decode method_3_code 22 = .ok (.aload_n 0, 1) := by decide +kernel
theorem d_method_3_23 : decode method_3_code 23 = .ok (.invokevirtual 13, 3) := by decide +kernel
theorem d_method_3_26 : decode method_3_code 26 = .ok (.iload_n 1, 1) := by decide +kernel
theorem d_method_3_27 : decode method_3_code 27 = .ok (.iconst 3, 1) := by decide +kernel
theorem d_method_3_28 : decode method_3_code 28 = .ok (.if_icmp .le 7, 3) := by decide +kernel
theorem d_method_3_31 : decode method_3_code 31 = .ok (.aload_n 0, 1) := by decide +kernel
theorem d_method_3_32 : decode method_3_code 32 = .ok (.invokevirtual 13, 3) := by decide +kernel
theorem d_method_3_35 : decode method_3_code 35 = .ok (.return_, 1) := by decide +kernel
theorem d_prog_2_method_10_0 : decode prog_2_method_10_code 0 = .ok (.aload_n 0, 1) := by decide +kernel
theorem d_prog_2_method_10_1 : decode prog_2_method_10_code 1 = .ok (.getfield 21, 3) := by decide +kernel
theorem d_prog_2_method_10_4 : decode prog_2_method_10_code 4 = .ok (.iload_n 2, 1) := by decide +kernel
theorem d_prog_2_method_10_5 : decode prog_2_method_10_code 5 = .ok (.iload_n 1, 1) := by decide +kernel
theorem d_prog_2_method_10_6 : decode prog_2_method_10_code 6 = .ok (.iastore, 1) := by decide +kernel
theorem d_prog_2_method_10_7 : decode prog_2_method_10_code 7 = .ok (.aload_n 0, 1) := by decide +kernel
theorem d_prog_2_method_10_8 : decode prog_2_method_10_code 8 = .ok (.getfield 25, 3) := by decide +kernel
theorem d_prog_2_method_10_11 : decode prog_2_method_10_code 11 = .ok (.iload_n 1, 1) := by decide +kernel
theorem d_prog_2_method_10_12 : decode prog_2_method_10_code 12 = .ok (.iload_n 2, 1) := by decide +kernel
theorem d_prog_2_method_10_13 : decode prog_2_method_10_code 13 = .ok (.iastore, 1) := by decide +kernel
theorem d_prog_2_method_10_14 : decode prog_2_method_10_code 14 = .ok (.return_, 1) := by decide +kernel
theorem d_prog_2_method_1_0 : decode prog_2_method_1_code 0 = .ok (.aload_n 0, 1) := by decide +kernel
theorem d_prog_2_method_1_1 : decode prog_2_method_1_code 1 = .ok (.invokespecial 1, 3) := by decide +kernel
theorem d_prog_2_method_1_4 : decode prog_2_method_1_code 4 = .ok (.aload_n 0, 1) := by decide +kernel
theorem d_prog_2_method_1_5 : decode prog_2_method_1_code 5 = .ok (.dconst 1, 1) := by decide +kernel
theorem d_prog_2_method_1_6 : decode prog_2_method_1_code 6 = .ok (.putfield 7, 3) := by decide +kernel
theorem d_prog_2_method_1_9 : decode prog_2_method_1_code 9 = .ok (.aload_n 0, 1) := by decide +kernel
theorem d_prog_2_method_1_10 : decode prog_2_method_1_code 10 = .ok (.iload_n 1, 1) := by decide +kernel
theorem d_prog_2_method_1_11 : decode prog_2_method_1_code 11 = .ok (.putfield 13, 3) := by decide +kernel
theorem d_prog_2_method_1_14 : decode prog_2_method_1_code 14 = .ok (.return_, 1) := by decide +kernel
theorem d_prog_2_method_2_0 : decode prog_2_method_2_code 0 = .ok (.aload_n 0, 1) := by decide +kernel
theorem d_prog_2_method_2_1 : decode prog_2_method_2_code 1 = .ok (.getfield 17, 3) := by decide +kernel
theorem d_prog_2_method_2_4 : decode prog_2_method_2_code 4 = .ok (.ifnonnull 41, 3) := by decide +kernel
theorem d_prog_2_method_2_7 : decode prog_2_method_2_code 7 = .ok (.aload_n 0, 1) := by decide +kernel
theorem d_prog_2_method_2_8 : decode prog_2_method_2_code 8 = .ok (.aload_n 0, 1) := by decide +kernel
theorem d_prog_2_method_2_9 : decode prog_2_method_2_code 9 = .ok (.getfield 13, 3) := by decide +kernel
theorem d_prog_2_method_2_12 : decode prog_2_method_2_code 12 = .ok (.newarray .double, 2) := by decide +kernel
theorem d_prog_2_method_2_14 : decode prog_2_method_2_code 14 = .ok (.putfield 17, 3) := by decide +kernel
theorem d_prog_2_method_2_17 : decode prog_2_method_2_code 17 = .ok (.aload_n 0, 1) := by decide +kernel
theorem d_prog_2_method_2_18 : decode prog_2_method_2_code 18 = .ok (.aload_n 0, 1) := by decide +kernel
theorem d_prog_2_method_2_19 : decode prog_2_method_2_code 19 = .ok (.getfield 13, 3) := by decide +kernel
theorem d_prog_2_method_2_22 : decode prog_2_method_2_code 22 = .ok (.newarray .int, 2) := by decide +kernel
theorem d_prog_2_method_2_24 : decode prog_2_method_2_code 24 = .ok (.putfield 21, 3) := by decide +kernel
theorem d_prog_2_method_2_27 : decode prog_2_method_2_code 27 = .ok (.aload_n 0, 1) := by decide +kernel
theorem d_prog_2_method_2_28 : decode prog_2_method_2_code 28 = .ok (.aload_n 0, 1) := by decide +kernel
theorem d_prog_2_method_2_29 : decode prog_2_method_2_code 29 = .ok (.getfield 13, 3) := by decide +kernel
theorem d_prog_2_method_2_32 : decode prog_2_method_2_code 32 = .ok (.newarray .int, 2) := by decide +kernel
theorem d_prog_2_method_2_34 : decode prog_2_method_2_code 34 = .ok (.putfield 25, 3) := by decide +kernel
theorem d_prog_2_method_2_37 : decode prog_2_method_2_code 37 = .ok (.aload_n 0, 1) := by decide +kernel
theorem d_prog_2_method_2_38 : decode prog_2_method_2_code 38 = .ok (.getfield 25, 3) := by decide +kernel
theorem d_prog_2_method_2_41 : decode prog_2_method_2_code 41 = .ok (.iconst (-1), 1) := by decide +kernel
theorem d_prog_2_method_2_42 : decode prog_2_method_2_code 42 = .ok (.invokestatic 28, 3) := by decide +kernel
theorem d_prog_2_method_2_45 : decode prog_2_method_2_code 45 = .ok (.aload_n 0, 1) := by decide +kernel
theorem d_prog_2_method_2_46 : decode prog_2_method_2_code 46 = .ok (.getfield 17, 3) := by decide +kernel
theorem d_prog_2_method_2_49 : decode prog_2_method_2_code 49 = .ok (.iload_n 1, 1) := by decide +kernel
theorem d_prog_2_method_2_50 : decode prog_2_method_2_code 50 = .ok (.dup2, 1) := by decide +kernel
theorem d_prog_2_method_2_51 : decode prog_2_method_2_code 51 = .ok (.daload, 1) := by decide +kernel
theorem d_prog_2_method_2_52 : decode prog_2_method_2_code 52 = .ok (.aload_n 0, 1) := by decide +kernel
theorem d_prog_2_method_2_53 : decode prog_2_method_2_code 53 = .ok (.getfield 7, 3) := by decide +kernel
theorem d_prog_2_method_2_56 : decode prog_2_method_2_code 56 = .ok (.dadd, 1) := by decide +kernel
theorem d_prog_2_method_2_57 : decode prog_2_method_2_code 57 = .ok (.dastore, 1) := by decide +kernel
theorem d_prog_2_method_2_58 : decode prog_2_method_2_code 58 = .ok (.aload_n 0, 1) := by decide +kernel
theorem d_prog_2_method_2_59 : decode prog_2_method_2_code 59 = .ok (.getfield 17, 3) := by decide +kernel
theorem d_prog_2_method_2_62 : decode prog_2_method_2_code 62 = .ok (.iload_n 1, 1) := by decide +kernel
theorem d_prog_2_method_2_63 : decode prog_2_method_2_code 63 = .ok (.daload, 1) := by decide +kernel
theorem d_prog_2_method_2_64 : decode prog_2_method_2_code 64 = .ok (.ldc2_w 34, 3) := by decide +kernel
theorem d_prog_2_method_2_67 : decode prog_2_method_2_code 67 = .ok (.dcmp .l, 1) := by decide +kernel
theorem d_prog_2_method_2_68 : decode prog_2_method_2_code 68 = .ok (.ifCond .le 7, 3) := by decide +kernel
theorem d_prog_2_method_2_75 : decode prog_2_method_2_code 75 = .ok (.aload_n 0, 1) := by decide +kernel
theorem d_prog_2_method_2_76 : decode prog_2_method_2_code 76 = .ok (.getfield 25, 3) := by decide +kernel
theorem d_prog_2_method_2_79 : decode prog_2_method_2_code 79 = .ok (.iload_n 1, 1) := by decide +kernel
theorem d_prog_2_method_2_80 : decode prog_2_method_2_code 80 = .ok (.iaload, 1) := by decide +kernel
theorem d_prog_2_method_2_81 : decode prog_2_method_2_code 81 = .ok (.iconst (-1), 1) := by decide +kernel
theorem d_prog_2_method_2_82 : decode prog_2_method_2_code 82 = .ok (.if_icmp .ne 11, 3) := by decide +kernel
theorem d_prog_2_method_2_85 : decode prog_2_method_2_code 85 = .ok (.aload_n 0, 1) := by decide +kernel
theorem d_prog_2_method_2_86 : decode prog_2_method_2_code 86 = .ok (.iload_n 1, 1) := by decide +kernel
theorem d_prog_2_method_2_87 : decode prog_2_method_2_code 87 = .ok (.invokevirtual 39, 3) := by decide +kernel
theorem d_prog_2_method_2_90 : decode prog_2_method_2_code 90 = .ok (.goto 13, 3) := by decide +kernel
theorem d_prog_2_method_2_93 : decode prog_2_method_2_code 93 = .ok (.aload_n 0, 1) := by decide +kernel
theorem d_prog_2_method_2_94 : decode prog_2_method_2_code 94 = .ok (.aload_n 0, 1) := by decide +kernel
theorem d_prog_2_method_2_95 : decode prog_2_method_2_code 95 = .ok (.getfield 25, 3) := by decide +kernel
theorem d_prog_2_method_2_98 : decode prog_2_method_2_code 98 = .ok (.iload_n 1, 1) := by decide +kernel
theorem d_prog_2_method_2_99 : decode prog_2_method_2_code 99 = .ok (.iaload, 1) := by decide +kernel
theorem d_prog_2_method_2_100 : decode prog_2_method_2_code 100 = .ok (.invokevirtual 43, 3) := by decide +kernel
theorem d_prog_2_method_2_103 : decode prog_2_method_2_code 103 = .ok (.return_, 1) := by decide +kernel
theorem d_prog_2_method_3_0 : decode prog_2_method_3_code 0 = .ok (.aload_n 0, 1) := by decide +kernel
theorem d_prog_2_method_3_1 : decode prog_2_method_3_code 1 = .ok (.dup, 1) := by decide +kernel
theorem d_prog_2_method_3_2 : decode prog_2_method_3_code 2 = .ok (.getfield 7, 3) := by decide +kernel
theorem d_prog_2_method_3_5 : decode prog_2_method_3_code 5 = .ok (.ldc2_w 46, 3) := by decide +kernel
theorem d_prog_2_method_3_8 : decode prog_2_method_3_code 8 = .ok (.ddiv, 1) := by decide +kernel
theorem d_prog_2_method_3_9 : decode prog_2_method_3_code 9 = .ok (.putfield 7, 3) := by decide +kernel
theorem d_prog_2_method_3_12 : decode prog_2_method_3_code 12 = .ok (.aload_n 0, 1) := by decide +kernel
theorem d_prog_2_method_3_13 : decode prog_2_method_3_code 13 = .ok (.getfield 7, 3) := by decide +kernel
theorem d_prog_2_method_3_16 : decode prog_2_method_3_code 16 = .ok (.ldc2_w 34, 3) := by decide +kernel
theorem d_prog_2_method_3_19 : decode prog_2_method_3_code 19 = .ok (.dcmp .l, 1) := by decide +kernel
theorem d_prog_2_method_3_20 : decode prog_2_method_3_code 20 = .ok (.ifCond .le 7, 3) := by decide +kernel
theorem d_prog_2_method_3_27 : decode prog_2_method_3_code 27 = .ok (.return_, 1) := by decide +kernel
theorem d_prog_2_method_5_0 : decode prog_2_method_5_code 0 = .ok (.aload_n 0, 1) := by decide +kernel
theorem d_prog_2_method_5_1 : decode prog_2_method_5_code 1 = .ok (.getfield 21, 3) := by decide +kernel
theorem d_prog_2_method_5_4 : decode prog_2_method_5_code 4 = .ok (.iconst 0, 1) := by decide +kernel
theorem d_prog_2_method_5_5 : decode prog_2_method_5_code 5 = .ok (.iaload, 1) := by decide +kernel
theorem d_prog_2_method_5_6 : decode prog_2_method_5_code 6 = .ok (.istore_n 1, 1) := by decide +kernel
theorem d_prog_2_method_5_7 : decode prog_2_method_5_code 7 = .ok (.aload_n 0, 1) := by decide +kernel
theorem d_prog_2_method_5_8 : decode prog_2_method_5_code 8 = .ok (.getfield 25, 3) := by decide +kernel
theorem d_prog_2_method_5_11 : decode prog_2_method_5_code 11 = .ok (.iload_n 1, 1) := by decide +kernel
theorem d_prog_2_method_5_12 : decode prog_2_method_5_code 12 = .ok (.iconst (-1), 1) := by decide +kernel
theorem d_prog_2_method_5_13 : decode prog_2_method_5_code 13 = .ok (.iastore, 1) := by decide +kernel
theorem d_prog_2_method_5_14 : decode prog_2_method_5_code 14 = .ok (.aload_n 0, 1) := by decide +kernel
theorem d_prog_2_method_5_15 : decode prog_2_method_5_code 15 = .ok (.dup, 1) := by decide +kernel
theorem d_prog_2_method_5_16 : decode prog_2_method_5_code 16 = .ok (.getfield 48, 3) := by decide +kernel
theorem d_prog_2_method_5_19 : decode prog_2_method_5_code 19 = .ok (.iconst 1, 1) := by decide +kernel
theorem d_prog_2_method_5_20 : decode prog_2_method_5_code 20 = .ok (.isub, 1) := by decide +kernel
theorem d_prog_2_method_5_21 : decode prog_2_method_5_code 21 = .ok (.putfield 48, 3) := by decide +kernel
theorem d_prog_2_method_5_24 : decode prog_2_method_5_code 24 = .ok (.aload_n 0, 1) := by decide +kernel
theorem d_prog_2_method_5_25 : decode prog_2_method_5_code 25 = .ok (.getfield 48, 3) := by decide +kernel
theorem d_prog_2_method_5_28 : decode prog_2_method_5_code 28 = .ok (.ifCond .le 22, 3) := by decide +kernel
theorem d_prog_2_method_5_31 : decode prog_2_method_5_code 31 = .ok (.aload_n 0, 1) := by decide +kernel
theorem d_prog_2_method_5_32 : decode prog_2_method_5_code 32 = .ok (.aload_n 0, 1) := by decide +kernel
theorem d_prog_2_method_5_33 : decode prog_2_method_5_code 33 = .ok (.getfield 21, 3) := by decide +kernel
theorem d_prog_2_method_5_36 : decode prog_2_method_5_code 36 = .ok (.aload_n 0, 1) := by decide +kernel
theorem d_prog_2_method_5_37 : decode prog_2_method_5_code 37 = .ok (.getfield 48, 3) := by decide +kernel
theorem d_prog_2_method_5_40 : decode prog_2_method_5_code 40 = .ok (.iaload, 1) := by decide +kernel
theorem d_prog_2_method_5_41 : decode prog_2_method_5_code 41 = .ok (.iconst 0, 1) := by decide +kernel
theorem d_prog_2_method_5_42 : decode prog_2_method_5_code 42 = .ok (.invokevirtual 51, 3) := by decide +kernel
theorem d_prog_2_method_5_45 : decode prog_2_method_5_code 45 = .ok (.aload_n 0, 1) := by decide +kernel
theorem d_prog_2_method_5_46 : decode prog_2_method_5_code 46 = .ok (.iconst 0, 1) := by decide +kernel
theorem d_prog_2_method_5_47 : decode prog_2_method_5_code 47 = .ok (.invokevirtual 55, 3) := by decide +kernel
theorem d_prog_2_method_5_50 : decode prog_2_method_5_code 50 = .ok (.iload_n 1, 1) := by decide +kernel
theorem d_prog_2_method_5_51 : decode prog_2_method_5_code 51 = .ok (.ireturn, 1) := by decide +kernel
theorem d_prog_2_method_6_0 : decode prog_2_method_6_code 0 = .ok (.aload_n 0, 1) := by decide +kernel
theorem d_prog_2_method_6_1 : decode prog_2_method_6_code 1 = .ok (.iload_n 1, 1) := by decide +kernel
theorem d_prog_2_method_6_2 : decode prog_2_method_6_code 2 = .ok (.aload_n 0, 1) := by decide +kernel
theorem d_prog_2_method_6_3 : decode prog_2_method_6_code 3 = .ok (.dup, 1) := by decide +kernel
theorem d_prog_2_method_6_4 : decode prog_2_method_6_code 4 = .ok (.getfield 48, 3) := by decide +kernel
theorem d_prog_2_method_6_7 : decode prog_2_method_6_code 7 = .ok (.dup_x1, 1) := by decide +kernel
theorem d_prog_2_method_6_8 : decode prog_2_method_6_code 8 = .ok (.iconst 1, 1) := by decide +kernel
theorem d_prog_2_method_6_9 : decode prog_2_method_6_code 9 = .ok (.iadd, 1) := by decide +kernel
theorem d_prog_2_method_6_10 : decode prog_2_method_6_code 10 = .ok (.putfield 48, 3) := by decide +kernel
theorem d_prog_2_method_6_13 : decode prog_2_method_6_code 13 = .ok (.invokevirtual 51, 3) := by decide +kernel
theorem d_prog_2_method_6_16 : decode prog_2_method_6_code 16 = .ok (.aload_n 0, 1) := by decide +kernel
theorem d_prog_2_method_6_17 : decode prog_2_method_6_code 17 = .ok (.aload_n 0, 1) := by decide +kernel
theorem d_prog_2_method_6_18 : decode prog_2_method_6_code 18 = .ok (.getfield 48, 3) := by decide +kernel
theorem d_prog_2_method_6_21 : decode prog_2_method_6_code 21 = .ok (.iconst 1, 1) := by decide +kernel
theorem d_prog_2_method_6_22 : decode prog_2_method_6_code 22 = .ok (.isub, 1) := by decide +kernel
theorem d_prog_2_method_6_23 : decode prog_2_method_6_code 23 = .ok (.invokevirtual 43, 3) := by decide +kernel
theorem d_prog_2_method_6_26 : decode prog_2_method_6_code 26 = .ok (.return_, 1) := by decide +kernel
theorem d_prog_2_method_8_0 : decode prog_2_method_8_code 0 = .ok (.aload_n 0, 1) := by decide +kernel
theorem d_prog_2_method_8_1 : decode prog_2_method_8_code 1 = .ok (.getfield 21, 3) := by decide +kernel
theorem d_prog_2_method_8_4 : decode prog_2_method_8_code 4 = .ok (.iload_n 1, 1) := by decide +kernel
theorem d_prog_2_method_8_5 : decode prog_2_method_8_code 5 = .ok (.iaload, 1) := by decide +kernel
theorem d_prog_2_method_8_6 : decode prog_2_method_8_code 6 = .ok (.istore_n 2, 1) := by decide +kernel
theorem d_prog_2_method_8_7 : decode prog_2_method_8_code 7 = .ok (.iload_n 1, 1) := by decide +kernel
theorem d_prog_2_method_8_8 : decode prog_2_method_8_code 8 = .ok (.ifCond .le 52, 3) := by decide +kernel
theorem d_prog_2_method_8_11 : decode prog_2_method_8_code 11 = .ok (.aload_n 0, 1) := by decide +kernel
theorem d_prog_2_method_8_12 : decode prog_2_method_8_code 12 = .ok (.getfield 17, 3) := by decide +kernel
theorem d_prog_2_method_8_15 : decode prog_2_method_8_code 15 = .ok (.aload_n 0, 1) := by decide +kernel
theorem d_prog_2_method_8_16 : decode prog_2_method_8_code 16 = .ok (.getfield 21, 3) := by decide +kernel
theorem d_prog_2_method_8_19 : decode prog_2_method_8_code 19 = .ok (.iload_n 1, 1) := by decide +kernel
theorem d_prog_2_method_8_20 : decode prog_2_method_8_code 20 = .ok (.iconst 1, 1) := by decide +kernel
theorem d_prog_2_method_8_21 : decode prog_2_method_8_code 21 = .ok (.isub, 1) := by decide +kernel
theorem d_prog_2_method_8_22 : decode prog_2_method_8_code 22 = .ok (.iconst 2, 1) := by decide +kernel
theorem d_prog_2_method_8_23 : decode prog_2_method_8_code 23 = .ok (.idiv, 1) := by decide +kernel
theorem d_prog_2_method_8_24 : decode prog_2_method_8_code 24 = .ok (.iaload, 1) := by decide +kernel
theorem d_prog_2_method_8_25 : decode prog_2_method_8_code 25 = .ok (.daload, 1) := by decide +kernel
theorem d_prog_2_method_8_26 : decode prog_2_method_8_code 26 = .ok (.aload_n 0, 1) := by decide +kernel
theorem d_prog_2_method_8_27 : decode prog_2_method_8_code 27 = .ok (.getfield 17, 3) := by decide +kernel
theorem d_prog_2_method_8_30 : decode prog_2_method_8_code 30 = .ok (.iload_n 2, 1) := by decide +kernel
theorem d_prog_2_method_8_31 : decode prog_2_method_8_code 31 = .ok (.daload, 1) := by decide +kernel
theorem d_prog_2_method_8_32 : decode prog_2_method_8_code 32 = .ok (.dcmp .g, 1) := by decide +kernel
theorem d_prog_2_method_8_33 : decode prog_2_method_8_code 33 = .ok (.ifCond .ge 27, 3) := by decide +kernel
theorem d_prog_2_method_8_36 : decode prog_2_method_8_code 36 = .ok (.aload_n 0, 1) := by decide +kernel
theorem d_prog_2_method_8_37 : decode prog_2_method_8_code 37 = .ok (.aload_n 0, 1) := by decide +kernel
theorem d_prog_2_method_8_38 : decode prog_2_method_8_code 38 = .ok (.getfield 21, 3) := by decide +kernel
theorem d_prog_2_method_8_41 : decode prog_2_method_8_code 41 = .ok (.iload_n 1, 1) := by decide +kernel
theorem d_prog_2_method_8_42 : decode prog_2_method_8_code 42 = .ok (.iconst 1, 1) := by decide +kernel
theorem d_prog_2_method_8_43 : decode prog_2_method_8_code 43 = .ok (.isub, 1) := by decide +kernel
theorem d_prog_2_method_8_44 : decode prog_2_method_8_code 44 = .ok (.iconst 2, 1) := by decide +kernel
theorem d_prog_2_method_8_45 : decode prog_2_method_8_code 45 = .ok (.idiv, 1) := by decide +kernel
theorem d_prog_2_method_8_46 : decode prog_2_method_8_code 46 = .ok (.iaload, 1) := by decide +kernel
theorem d_prog_2_method_8_47 : decode prog_2_method_8_code 47 = .ok (.iload_n 1, 1) := by decide +kernel
theorem d_prog_2_method_8_48 : decode prog_2_method_8_code 48 = .ok (.invokevirtual 51, 3) := by decide +kernel
theorem d_prog_2_method_8_51 : decode prog_2_method_8_code 51 = .ok (.iload_n 1, 1) := by decide +kernel
theorem d_prog_2_method_8_52 : decode prog_2_method_8_code 52 = .ok (.iconst 1, 1) := by decide +kernel
theorem d_prog_2_method_8_53 : decode prog_2_method_8_code 53 = .ok (.isub, 1) := by decide +kernel
theorem d_prog_2_method_8_54 : decode prog_2_method_8_code 54 = .ok (.iconst 2, 1) := by decide +kernel
theorem d_prog_2_method_8_55 : decode prog_2_method_8_code 55 = .ok (.idiv, 1) := by decide +kernel
theorem d_prog_2_method_8_56 : decode prog_2_method_8_code 56 = .ok (.istore_n 1, 1) := by decide +kernel
theorem d_prog_2_method_8_57 : decode prog_2_method_8_code 57 = .ok (.goto (-50), 3) := by decide +kernel
theorem d_prog_2_method_8_60 : decode prog_2_method_8_code 60 = .ok (.aload_n 0, 1) := by decide +kernel
theorem d_prog_2_method_8_61 : decode prog_2_method_8_code 61 = .ok (.iload_n 2, 1) := by decide +kernel
theorem d_prog_2_method_8_62 : decode prog_2_method_8_code 62 = .ok (.iload_n 1, 1) := by decide +kernel
theorem d_prog_2_method_8_63 : decode prog_2_method_8_code 63 = .ok (.invokevirtual 51, 3) := by decide +kernel
theorem d_prog_2_method_8_66 : decode prog_2_method_8_code 66 = .ok (.return_, 1) := by decide +kernel
theorem d_prog_2_method_9_0 : decode prog_2_method_9_code 0 = .ok (.aload_n 0, 1) := by decide +kernel
theorem d_prog_2_method_9_1 : decode prog_2_method_9_code 1 = .ok (.getfield 21, 3) := by decide +kernel
theorem d_prog_2_method_9_4 : decode prog_2_method_9_code 4 = .ok (.iload_n 1, 1) := by decide +kernel
theorem d_prog_2_method_9_5 : decode prog_2_method_9_code 5 = .ok (.iaload, 1) := by decide +kernel
theorem d_prog_2_method_9_6 : decode prog_2_method_9_code 6 = .ok (.istore_n 2, 1) := by decide +kernel
theorem d_prog_2_method_9_7 : decode prog_2_method_9_code 7 = .ok (.iconst 2, 1) := by decide +kernel
theorem d_prog_2_method_9_8 : decode prog_2_method_9_code 8 = .ok (.iload_n 1, 1) := by decide +kernel
theorem d_prog_2_method_9_9 : decode prog_2_method_9_code 9 = .ok (.imul, 1) := by decide +kernel
theorem d_prog_2_method_9_10 : decode prog_2_method_9_code 10 = .ok (.iconst 1, 1) := by decide +kernel
theorem d_prog_2_method_9_11 : decode prog_2_method_9_code 11 = .ok (.iadd, 1) := by decide +kernel
theorem d_prog_2_method_9_12 : decode prog_2_method_9_code 12 = .ok (.aload_n 0, 1) := by decide +kernel
theorem d_prog_2_method_9_13 : decode prog_2_method_9_code 13 = .ok (.getfield 48, 3) := by decide +kernel
theorem d_prog_2_method_9_16 : decode prog_2_method_9_code 16 = .ok (.if_icmp .ge 90, 3) := by decide +kernel
theorem d_prog_2_method_9_19 : decode prog_2_method_9_code 19 = .ok (.iconst 2, 1) := by decide +kernel
theorem d_prog_2_method_9_20 : decode prog_2_method_9_code 20 = .ok (.iload_n 1, 1) := by decide +kernel
theorem d_prog_2_method_9_21 : decode prog_2_method_9_code 21 = .ok (.imul, 1) := by decide +kernel
theorem d_prog_2_method_9_22 : decode prog_2_method_9_code 22 = .ok (.iconst 1, 1) := by decide +kernel
theorem d_prog_2_method_9_23 : decode prog_2_method_9_code 23 = .ok (.iadd, 1) := by decide +kernel
theorem d_prog_2_method_9_24 : decode prog_2_method_9_code 24 = .ok (.istore_n 3, 1) := by decide +kernel
theorem d_prog_2_method_9_25 : decode prog_2_method_9_code 25 = .ok (.iload_n 3, 1) := by decide +kernel
theorem d_prog_2_method_9_26 : decode prog_2_method_9_code 26 = .ok (.iconst 1, 1) := by decide +kernel
theorem d_prog_2_method_9_27 : decode prog_2_method_9_code 27 = .ok (.iadd, 1) := by decide +kernel
theorem d_prog_2_method_9_28 : decode prog_2_method_9_code 28 = .ok (.aload_n 0, 1) := by decide +kernel
theorem d_prog_2_method_9_29 : decode prog_2_method_9_code 29 = .ok (.getfield 48, 3) := by decide +kernel
theorem d_prog_2_method_9_32 : decode prog_2_method_9_code 32 = .ok (.if_icmp .ge 34, 3) := by decide +kernel
theorem d_prog_2_method_9_35 : decode prog_2_method_9_code 35 = .ok (.aload_n 0, 1) := by decide +kernel
theorem d_prog_2_method_9_36 : decode prog_2_method_9_code 36 = .ok (.getfield 17, 3) := by decide +kernel
theorem d_prog_2_method_9_39 : decode prog_2_method_9_code 39 = .ok (.aload_n 0, 1) := by decide +kernel
theorem d_prog_2_method_9_40 : decode prog_2_method_9_code 40 = .ok (.getfield 21, 3) := by decide +kernel
theorem d_prog_2_method_9_43 : decode prog_2_method_9_code 43 = .ok (.iload_n 3, 1) := by decide +kernel
theorem d_prog_2_method_9_44 : decode prog_2_method_9_code 44 = .ok (.iconst 1, 1) := by decide +kernel
theorem d_prog_2_method_9_45 : decode prog_2_method_9_code 45 = .ok (.iadd, 1) := by decide +kernel
theorem d_prog_2_method_9_46 : decode prog_2_method_9_code 46 = .ok (.iaload, 1) := by decide +kernel
theorem d_prog_2_method_9_47 : decode prog_2_method_9_code 47 = .ok (.daload, 1) := by decide +kernel
theorem d_prog_2_method_9_48 : decode prog_2_method_9_code 48 = .ok (.aload_n 0, 1) := by decide +kernel
theorem d_prog_2_method_9_49 : decode prog_2_method_9_code 49 = .ok (.getfield 17, 3) := by decide +kernel
theorem d_prog_2_method_9_52 : decode prog_2_method_9_code 52 = .ok (.aload_n 0, 1) := by decide +kernel
theorem d_prog_2_method_9_53 : decode prog_2_method_9_code 53 = .ok (.getfield 21, 3) := by decide +kernel
theorem d_prog_2_method_9_56 : decode prog_2_method_9_code 56 = .ok (.iload_n 3, 1) := by decide +kernel
theorem d_prog_2_method_9_57 : decode prog_2_method_9_code 57 = .ok (.iaload, 1) := by decide +kernel
theorem d_prog_2_method_9_58 : decode prog_2_method_9_code 58 = .ok (.daload, 1) := by decide +kernel
theorem d_prog_2_method_9_59 : decode prog_2_method_9_code 59 = .ok (.dcmp .l, 1) := by decide +kernel
theorem d_prog_2_method_9_60 : decode prog_2_method_9_code 60 = .ok (.ifCond .le 6, 3) := by decide +kernel
theorem d_prog_2_method_9_63 : decode prog_2_method_9_code 63 = .ok (.iinc 3 1, 3) := by decide +kernel
theorem d_prog_2_method_9_66 : decode prog_2_method_9_code 66 = .ok (.aload_n 0, 1) := by decide +kernel
theorem d_prog_2_method_9_67 : decode prog_2_method_9_code 67 = .ok (.getfield 17, 3) := by decide +kernel
theorem d_prog_2_method_9_70 : decode prog_2_method_9_code 70 = .ok (.aload_n 0, 1) := by decide +kernel
theorem d_prog_2_method_9_71 : decode prog_2_method_9_code 71 = .ok (.getfield 21, 3) := by decide +kernel
theorem d_prog_2_method_9_74 : decode prog_2_method_9_code 74 = .ok (.iload_n 3, 1) := by decide +kernel
theorem d_prog_2_method_9_75 : decode prog_2_method_9_code 75 = .ok (.iaload, 1) := by decide +kernel
theorem d_prog_2_method_9_76 : decode prog_2_method_9_code 76 = .ok (.daload, 1) := by decide +kernel
theorem d_prog_2_method_9_77 : decode prog_2_method_9_code 77 = .ok (.aload_n 0, 1) := by decide +kernel
theorem d_prog_2_method_9_78 : decode prog_2_method_9_code 78 = .ok (.getfield 17, 3) := by decide +kernel
theorem d_prog_2_method_9_81 : decode prog_2_method_9_code 81 = .ok (.iload_n 2, 1) := by decide +kernel
theorem d_prog_2_method_9_82 : decode prog_2_method_9_code 82 = .ok (.daload, 1) := by decide +kernel
theorem d_prog_2_method_9_83 : decode prog_2_method_9_code 83 = .ok (.dcmp .g, 1) := by decide +kernel
theorem d_prog_2_method_9_84 : decode prog_2_method_9_code 84 = .ok (.ifCond .gt 6, 3) := by decide +kernel
theorem d_prog_2_method_9_87 : decode prog_2_method_9_code 87 = .ok (.goto 19, 3) := by decide +kernel
theorem d_prog_2_method_9_90 : decode prog_2_method_9_code 90 = .ok (.aload_n 0, 1) := by decide +kernel
theorem d_prog_2_method_9_91 : decode prog_2_method_9_code 91 = .ok (.aload_n 0, 1) := by decide +kernel
theorem d_prog_2_method_9_92 : decode prog_2_method_9_code 92 = .ok (.getfield 21, 3) := by decide +kernel
theorem d_prog_2_method_9_95 : decode prog_2_method_9_code 95 = .ok (.iload_n 3, 1) := by decide +kernel
theorem d_prog_2_method_9_96 : decode prog_2_method_9_code 96 = .ok (.iaload, 1) := by decide +kernel
theorem d_prog_2_method_9_97 : decode prog_2_method_9_code 97 = .ok (.iload_n 1, 1) := by decide +kernel
theorem d_prog_2_method_9_98 : decode prog_2_method_9_code 98 = .ok (.invokevirtual 51, 3) := by decide +kernel
theorem d_prog_2_method_9_101 : decode prog_2_method_9_code 101 = .ok (.iload_n 3, 1) := by decide +kernel
theorem d_prog_2_method_9_102 : decode prog_2_method_9_code 102 = .ok (.istore_n 1, 1) := by decide +kernel
theorem d_prog_2_method_9_103 : decode prog_2_method_9_code 103 = .ok (.goto (-96), 3) := by decide +kernel
theorem d_prog_2_method_9_106 : decode prog_2_method_9_code 106 = .ok (.aload_n 0, 1) := by decide +kernel
theorem d_prog_2_method_9_107 : decode prog_2_method_9_code 107 = .ok (.iload_n 2, 1) := by decide +kernel
theorem d_prog_2_method_9_108 : decode prog_2_method_9_code 108 = .ok (.iload_n 1, 1) := by decide +kernel
theorem d_prog_2_method_9_109 : decode prog_2_method_9_code 109 = .ok (.invokevirtual 51, 3) := by decide +kernel
theorem d_prog_2_method_9_112 : decode prog_2_method_9_code 112 = .ok (.return_, 1) := by decide +kernel
theorem wd0 {a0 : Array Value} {Z : State} (hw : ∀ d ∈ tables_1, d.before a0 Z = true) : Jvm.Cond.before (Jvm.Cond.constant "com/example/sightline/sightline/checker/ByActivityDecayPinLaw" (16 : Nat) (2147483647 : Int32)) a0 Z = true := hw _ (List.mem_of_getElem? (i := 0) rfl)
theorem wd1 {a0 : Array Value} {Z : State} (hw : ∀ d ∈ tables_1, d.before a0 Z = true) : Jvm.Cond.before (Jvm.Cond.classLink "com/example/sightline/sightline/checker/ByActivityDecayPinLaw" (8 : Nat) "com/example/sightline/sightline/checker/ByActivity") a0 Z = true := hw _ (List.mem_of_getElem? (i := 1) rfl)
theorem wd2 {a0 : Array Value} {Z : State} (hw : ∀ d ∈ tables_1, d.before a0 Z = true) : Jvm.Cond.before (Jvm.Cond.instantiable "com/example/sightline/sightline/checker/ByActivity" (6 : Nat)) a0 Z = true := hw _ (List.mem_of_getElem? (i := 2) rfl)
theorem wd3 {a0 : Array Value} {Z : State} (hw : ∀ d ∈ tables_1, d.before a0 Z = true) : Jvm.Cond.before (Jvm.Cond.initialized "com/example/sightline/sightline/checker/ByActivity") a0 Z = true := hw _ (List.mem_of_getElem? (i := 3) rfl)
theorem wd4 {a0 : Array Value} {Z : State} (hw : ∀ d ∈ tables_1, d.before a0 Z = true) : Jvm.Cond.before (Jvm.Cond.methodLink "com/example/sightline/sightline/checker/ByActivityDecayPinLaw" (17 : Nat) ({ cls := "com/example/sightline/sightline/checker/ByActivity", name := "<init>", desc := "(I)V" } : Jvm.MethodName)) a0 Z = true := hw _ (List.mem_of_getElem? (i := 4) rfl)
theorem wd5 {a0 : Array Value} {Z : State} (hw : ∀ d ∈ tables_1, d.before a0 Z = true) : Jvm.Cond.before (Jvm.Cond.instanceMethod ({ cls := "com/example/sightline/sightline/checker/ByActivity", name := "<init>", desc := "(I)V" } : Jvm.MethodName)) a0 Z = true := hw _ (List.mem_of_getElem? (i := 5) rfl)
theorem wd6 {a0 : Array Value} {Z : State} (hw : ∀ d ∈ tables_1, d.before a0 Z = true) : Jvm.Cond.before (Jvm.Cond.code ({ cls := "com/example/sightline/sightline/checker/ByActivity", name := "<init>", desc := "(I)V" } : Jvm.MethodName) prog_2_method_1_code (2 : Nat) (Option.none : Option Jvm.ClassFile.FieldType)) a0 Z = true := hw _ (List.mem_of_getElem? (i := 6) rfl)
theorem wd7 {a0 : Array Value} {Z : State} (hw : ∀ d ∈ tables_1, d.before a0 Z = true) : Jvm.Cond.before (Jvm.Cond.methodLink "com/example/sightline/sightline/checker/ByActivity" (1 : Nat) ({ cls := "java/lang/Object", name := "<init>", desc := "()V" } : Jvm.MethodName)) a0 Z = true := hw _ (List.mem_of_getElem? (i := 7) rfl)
theorem wd8 {a0 : Array Value} {Z : State} (hw : ∀ d ∈ tables_1, d.before a0 Z = true) : Jvm.Cond.before (Jvm.Cond.instanceMethod ({ cls := "java/lang/Object", name := "<init>", desc := "()V" } : Jvm.MethodName)) a0 Z = true := hw _ (List.mem_of_getElem? (i := 8) rfl)
theorem wd9 {a0 : Array Value} {Z : State} (hw : ∀ d ∈ tables_1, d.before a0 Z = true) : Jvm.Cond.before (Jvm.Cond.code ({ cls := "java/lang/Object", name := "<init>", desc := "()V" } : Jvm.MethodName) object_method_1_code (1 : Nat) (Option.none : Option Jvm.ClassFile.FieldType)) a0 Z = true := hw _ (List.mem_of_getElem? (i := 9) rfl)
theorem wd10 {a0 : Array Value} {Z : State} (hw : ∀ d ∈ tables_1, d.before a0 Z = true) : Jvm.Cond.before (Jvm.Cond.fieldLink "com/example/sightline/sightline/checker/ByActivity" (7 : Nat) "com/example/sightline/sightline/checker/ByActivity" "gain" "D") a0 Z = true := hw _ (List.mem_of_getElem? (i := 10) rfl)
theorem wd11 {a0 : Array Value} {Z : State} (hw : ∀ d ∈ tables_1, d.before a0 Z = true) : Jvm.Cond.before (Jvm.Cond.lays "com/example/sightline/sightline/checker/ByActivity" "com/example/sightline/sightline/checker/ByActivity" "gain" "D") a0 Z = true := hw _ (List.mem_of_getElem? (i := 11) rfl)
theorem wd12 {a0 : Array Value} {Z : State} (hw : ∀ d ∈ tables_1, d.before a0 Z = true) : Jvm.Cond.before (Jvm.Cond.fieldLink "com/example/sightline/sightline/checker/ByActivity" (13 : Nat) "com/example/sightline/sightline/checker/ByActivity" "choices" "I") a0 Z = true := hw _ (List.mem_of_getElem? (i := 12) rfl)
theorem wd13 {a0 : Array Value} {Z : State} (hw : ∀ d ∈ tables_1, d.before a0 Z = true) : Jvm.Cond.before (Jvm.Cond.laysFinal "com/example/sightline/sightline/checker/ByActivity" "com/example/sightline/sightline/checker/ByActivity" "choices" "I") a0 Z = true := hw _ (List.mem_of_getElem? (i := 13) rfl)
theorem wd14 {a0 : Array Value} {Z : State} (hw : ∀ d ∈ tables_1, d.before a0 Z = true) : Jvm.Cond.before (Jvm.Cond.methodLink "com/example/sightline/sightline/checker/ByActivityDecayPinLaw" (19 : Nat) ({ cls := "com/example/sightline/sightline/checker/ByActivityDecayPinLaw", name := "bumps", desc := "(Lcom/example/sightline/sightline/checker/ByActivity;II)V" } : Jvm.MethodName)) a0 Z = true := hw _ (List.mem_of_getElem? (i := 14) rfl)
theorem wd15 {a0 : Array Value} {Z : State} (hw : ∀ d ∈ tables_1, d.before a0 Z = true) : Jvm.Cond.before (Jvm.Cond.static ({ cls := "com/example/sightline/sightline/checker/ByActivityDecayPinLaw", name := "bumps", desc := "(Lcom/example/sightline/sightline/checker/ByActivity;II)V" } : Jvm.MethodName)) a0 Z = true := hw _ (List.mem_of_getElem? (i := 15) rfl)
theorem wd16 {a0 : Array Value} {Z : State} (hw : ∀ d ∈ tables_1, d.before a0 Z = true) : Jvm.Cond.before (Jvm.Cond.initialized "com/example/sightline/sightline/checker/ByActivityDecayPinLaw") a0 Z = true := hw _ (List.mem_of_getElem? (i := 16) rfl)
theorem wd17 {a0 : Array Value} {Z : State} (hw : ∀ d ∈ tables_1, d.before a0 Z = true) : Jvm.Cond.before (Jvm.Cond.code ({ cls := "com/example/sightline/sightline/checker/ByActivityDecayPinLaw", name := "bumps", desc := "(Lcom/example/sightline/sightline/checker/ByActivity;II)V" } : Jvm.MethodName) method_2_code (3 : Nat) (Option.none : Option Jvm.ClassFile.FieldType)) a0 Z = true := hw _ (List.mem_of_getElem? (i := 17) rfl)
theorem wd18 {a0 : Array Value} {Z : State} (hw : ∀ d ∈ tables_1, d.before a0 Z = true) : Jvm.Cond.before (Jvm.Cond.methodLink "com/example/sightline/sightline/checker/ByActivityDecayPinLaw" (7 : Nat) ({ cls := "com/example/sightline/sightline/checker/ByActivity", name := "bump", desc := "(I)V" } : Jvm.MethodName)) a0 Z = true := hw _ (List.mem_of_getElem? (i := 18) rfl)
theorem wd19 {a0 : Array Value} {Z : State} (hw : ∀ d ∈ tables_1, d.before a0 Z = true) : Jvm.Cond.before (Jvm.Cond.declares ({ cls := "com/example/sightline/sightline/checker/ByActivity", name := "bump", desc := "(I)V" } : Jvm.MethodName)) a0 Z = true := hw _ (List.mem_of_getElem? (i := 19) rfl)
theorem wd20 {a0 : Array Value} {Z : State} (hw : ∀ d ∈ tables_1, d.before a0 Z = true) : Jvm.Cond.before (Jvm.Cond.instanceMethod ({ cls := "com/example/sightline/sightline/checker/ByActivity", name := "bump", desc := "(I)V" } : Jvm.MethodName)) a0 Z = true := hw _ (List.mem_of_getElem? (i := 20) rfl)
theorem wd21 {a0 : Array Value} {Z : State} (hw : ∀ d ∈ tables_1, d.before a0 Z = true) : Jvm.Cond.before (Jvm.Cond.selects "com/example/sightline/sightline/checker/ByActivity" ({ cls := "com/example/sightline/sightline/checker/ByActivity", name := "bump", desc := "(I)V" } : Jvm.MethodName) ({ cls := "com/example/sightline/sightline/checker/ByActivity", name := "bump", desc := "(I)V" } : Jvm.MethodName)) a0 Z = true := hw _ (List.mem_of_getElem? (i := 21) rfl)
theorem wd22 {a0 : Array Value} {Z : State} (hw : ∀ d ∈ tables_1, d.before a0 Z = true) : Jvm.Cond.before (Jvm.Cond.code ({ cls := "com/example/sightline/sightline/checker/ByActivity", name := "bump", desc := "(I)V" } : Jvm.MethodName) prog_2_method_2_code (2 : Nat) (Option.none : Option Jvm.ClassFile.FieldType)) a0 Z = true := hw _ (List.mem_of_getElem? (i := 22) rfl)
theorem wd23 {a0 : Array Value} {Z : State} (hw : ∀ d ∈ tables_1, d.before a0 Z = true) : Jvm.Cond.before (Jvm.Cond.fieldLink "com/example/sightline/sightline/checker/ByActivity" (17 : Nat) "com/example/sightline/sightline/checker/ByActivity" "activity" "[D") a0 Z = true := hw _ (List.mem_of_getElem? (i := 23) rfl)
theorem wd24 {a0 : Array Value} {Z : State} (hw : ∀ d ∈ tables_1, d.before a0 Z = true) : Jvm.Cond.before (Jvm.Cond.lays "com/example/sightline/sightline/checker/ByActivity" "com/example/sightline/sightline/checker/ByActivity" "activity" "[D") a0 Z = true := hw _ (List.mem_of_getElem? (i := 24) rfl)
theorem wd25 {a0 : Array Value} {Z : State} (hw : ∀ d ∈ tables_1, d.before a0 Z = true) : Jvm.Cond.before (Jvm.Cond.arrayClass Jvm.ClassFile.FieldType.double) a0 Z = true := hw _ (List.mem_of_getElem? (i := 25) rfl)
theorem wd26 {a0 : Array Value} {Z : State} (hw : ∀ d ∈ tables_1, d.before a0 Z = true) : Jvm.Cond.before (Jvm.Cond.arrayClass Jvm.ClassFile.FieldType.int) a0 Z = true := hw _ (List.mem_of_getElem? (i := 26) rfl)
theorem wd27 {a0 : Array Value} {Z : State} (hw : ∀ d ∈ tables_1, d.before a0 Z = true) : Jvm.Cond.before (Jvm.Cond.fieldLink "com/example/sightline/sightline/checker/ByActivity" (21 : Nat) "com/example/sightline/sightline/checker/ByActivity" "heap" "[I") a0 Z = true := hw _ (List.mem_of_getElem? (i := 27) rfl)
theorem wd28 {a0 : Array Value} {Z : State} (hw : ∀ d ∈ tables_1, d.before a0 Z = true) : Jvm.Cond.before (Jvm.Cond.lays "com/example/sightline/sightline/checker/ByActivity" "com/example/sightline/sightline/checker/ByActivity" "heap" "[I") a0 Z = true := hw _ (List.mem_of_getElem? (i := 28) rfl)
theorem wd29 {a0 : Array Value} {Z : State} (hw : ∀ d ∈ tables_1, d.before a0 Z = true) : Jvm.Cond.before (Jvm.Cond.fieldLink "com/example/sightline/sightline/checker/ByActivity" (25 : Nat) "com/example/sightline/sightline/checker/ByActivity" "slot" "[I") a0 Z = true := hw _ (List.mem_of_getElem? (i := 29) rfl)
theorem wd30 {a0 : Array Value} {Z : State} (hw : ∀ d ∈ tables_1, d.before a0 Z = true) : Jvm.Cond.before (Jvm.Cond.lays "com/example/sightline/sightline/checker/ByActivity" "com/example/sightline/sightline/checker/ByActivity" "slot" "[I") a0 Z = true := hw _ (List.mem_of_getElem? (i := 30) rfl)
theorem wd31 {a0 : Array Value} {Z : State} (hw : ∀ d ∈ tables_1, d.before a0 Z = true) : Jvm.Cond.before (Jvm.Cond.methodLink "com/example/sightline/sightline/checker/ByActivity" (28 : Nat) ({ cls := "java/util/Arrays", name := "fill", desc := "([II)V" } : Jvm.MethodName)) a0 Z = true := hw _ (List.mem_of_getElem? (i := 31) rfl)
theorem wd32 {a0 : Array Value} {Z : State} (hw : ∀ d ∈ tables_1, d.before a0 Z = true) : Jvm.Cond.before (Jvm.Cond.static ({ cls := "java/util/Arrays", name := "fill", desc := "([II)V" } : Jvm.MethodName)) a0 Z = true := hw _ (List.mem_of_getElem? (i := 32) rfl)
theorem wd33 {a0 : Array Value} {Z : State} (hw : ∀ d ∈ tables_1, d.before a0 Z = true) : Jvm.Cond.before (Jvm.Cond.initialized "java/util/Arrays") a0 Z = true := hw _ (List.mem_of_getElem? (i := 33) rfl)
theorem wd34 {a0 : Array Value} {Z : State} (hw : ∀ d ∈ tables_1, d.before a0 Z = true) : Jvm.Cond.before (Jvm.Cond.code ({ cls := "java/util/Arrays", name := "fill", desc := "([II)V" } : Jvm.MethodName) jdk_65_method_103_code (4 : Nat) (Option.none : Option Jvm.ClassFile.FieldType)) a0 Z = true := hw _ (List.mem_of_getElem? (i := 34) rfl)
theorem wd35 {a0 : Array Value} {Z : State} (hw : ∀ d ∈ tables_1, d.before a0 Z = true) : Jvm.Cond.before (Jvm.Cond.constantDouble "com/example/sightline/sightline/checker/ByActivity" (34 : Nat) (6103021453049119613 : UInt64)) a0 Z = true := hw _ (List.mem_of_getElem? (i := 35) rfl)
theorem wd36 {a0 : Array Value} {Z : State} (hw : ∀ d ∈ tables_1, d.before a0 Z = true) : Jvm.Cond.before (Jvm.Cond.methodLink "com/example/sightline/sightline/checker/ByActivity" (39 : Nat) ({ cls := "com/example/sightline/sightline/checker/ByActivity", name := "push", desc := "(I)V" } : Jvm.MethodName)) a0 Z = true := hw _ (List.mem_of_getElem? (i := 36) rfl)
theorem wd37 {a0 : Array Value} {Z : State} (hw : ∀ d ∈ tables_1, d.before a0 Z = true) : Jvm.Cond.before (Jvm.Cond.declares ({ cls := "com/example/sightline/sightline/checker/ByActivity", name := "push", desc := "(I)V" } : Jvm.MethodName)) a0 Z = true := hw _ (List.mem_of_getElem? (i := 37) rfl)
theorem wd38 {a0 : Array Value} {Z : State} (hw : ∀ d ∈ tables_1, d.before a0 Z = true) : Jvm.Cond.before (Jvm.Cond.instanceMethod ({ cls := "com/example/sightline/sightline/checker/ByActivity", name := "push", desc := "(I)V" } : Jvm.MethodName)) a0 Z = true := hw _ (List.mem_of_getElem? (i := 38) rfl)
theorem wd39 {a0 : Array Value} {Z : State} (hw : ∀ d ∈ tables_1, d.before a0 Z = true) : Jvm.Cond.before (Jvm.Cond.selects "com/example/sightline/sightline/checker/ByActivity" ({ cls := "com/example/sightline/sightline/checker/ByActivity", name := "push", desc := "(I)V" } : Jvm.MethodName) ({ cls := "com/example/sightline/sightline/checker/ByActivity", name := "push", desc := "(I)V" } : Jvm.MethodName)) a0 Z = true := hw _ (List.mem_of_getElem? (i := 39) rfl)
theorem wd40 {a0 : Array Value} {Z : State} (hw : ∀ d ∈ tables_1, d.before a0 Z = true) : Jvm.Cond.before (Jvm.Cond.code ({ cls := "com/example/sightline/sightline/checker/ByActivity", name := "push", desc := "(I)V" } : Jvm.MethodName) prog_2_method_6_code (2 : Nat) (Option.none : Option Jvm.ClassFile.FieldType)) a0 Z = true := hw _ (List.mem_of_getElem? (i := 40) rfl)
theorem wd41 {a0 : Array Value} {Z : State} (hw : ∀ d ∈ tables_1, d.before a0 Z = true) : Jvm.Cond.before (Jvm.Cond.fieldLink "com/example/sightline/sightline/checker/ByActivity" (48 : Nat) "com/example/sightline/sightline/checker/ByActivity" "count" "I") a0 Z = true := hw _ (List.mem_of_getElem? (i := 41) rfl)
theorem wd42 {a0 : Array Value} {Z : State} (hw : ∀ d ∈ tables_1, d.before a0 Z = true) : Jvm.Cond.before (Jvm.Cond.lays "com/example/sightline/sightline/checker/ByActivity" "com/example/sightline/sightline/checker/ByActivity" "count" "I") a0 Z = true := hw _ (List.mem_of_getElem? (i := 42) rfl)
theorem wd43 {a0 : Array Value} {Z : State} (hw : ∀ d ∈ tables_1, d.before a0 Z = true) : Jvm.Cond.before (Jvm.Cond.methodLink "com/example/sightline/sightline/checker/ByActivity" (51 : Nat) ({ cls := "com/example/sightline/sightline/checker/ByActivity", name := "place", desc := "(II)V" } : Jvm.MethodName)) a0 Z = true := hw _ (List.mem_of_getElem? (i := 43) rfl)
theorem wd44 {a0 : Array Value} {Z : State} (hw : ∀ d ∈ tables_1, d.before a0 Z = true) : Jvm.Cond.before (Jvm.Cond.instanceMethod ({ cls := "com/example/sightline/sightline/checker/ByActivity", name := "place", desc := "(II)V" } : Jvm.MethodName)) a0 Z = true := hw _ (List.mem_of_getElem? (i := 44) rfl)
theorem wd45 {a0 : Array Value} {Z : State} (hw : ∀ d ∈ tables_1, d.before a0 Z = true) : Jvm.Cond.before (Jvm.Cond.privateMethod ({ cls := "com/example/sightline/sightline/checker/ByActivity", name := "place", desc := "(II)V" } : Jvm.MethodName)) a0 Z = true := hw _ (List.mem_of_getElem? (i := 45) rfl)
theorem wd46 {a0 : Array Value} {Z : State} (hw : ∀ d ∈ tables_1, d.before a0 Z = true) : Jvm.Cond.before (Jvm.Cond.code ({ cls := "com/example/sightline/sightline/checker/ByActivity", name := "place", desc := "(II)V" } : Jvm.MethodName) prog_2_method_10_code (3 : Nat) (Option.none : Option Jvm.ClassFile.FieldType)) a0 Z = true := hw _ (List.mem_of_getElem? (i := 46) rfl)
theorem wd47 {a0 : Array Value} {Z : State} (hw : ∀ d ∈ tables_1, d.before a0 Z = true) : Jvm.Cond.before (Jvm.Cond.methodLink "com/example/sightline/sightline/checker/ByActivity" (43 : Nat) ({ cls := "com/example/sightline/sightline/checker/ByActivity", name := "up", desc := "(I)V" } : Jvm.MethodName)) a0 Z = true := hw _ (List.mem_of_getElem? (i := 47) rfl)
theorem wd48 {a0 : Array Value} {Z : State} (hw : ∀ d ∈ tables_1, d.before a0 Z = true) : Jvm.Cond.before (Jvm.Cond.instanceMethod ({ cls := "com/example/sightline/sightline/checker/ByActivity", name := "up", desc := "(I)V" } : Jvm.MethodName)) a0 Z = true := hw _ (List.mem_of_getElem? (i := 48) rfl)
theorem wd49 {a0 : Array Value} {Z : State} (hw : ∀ d ∈ tables_1, d.before a0 Z = true) : Jvm.Cond.before (Jvm.Cond.privateMethod ({ cls := "com/example/sightline/sightline/checker/ByActivity", name := "up", desc := "(I)V" } : Jvm.MethodName)) a0 Z = true := hw _ (List.mem_of_getElem? (i := 49) rfl)
theorem wd50 {a0 : Array Value} {Z : State} (hw : ∀ d ∈ tables_1, d.before a0 Z = true) : Jvm.Cond.before (Jvm.Cond.code ({ cls := "com/example/sightline/sightline/checker/ByActivity", name := "up", desc := "(I)V" } : Jvm.MethodName) prog_2_method_8_code (3 : Nat) (Option.none : Option Jvm.ClassFile.FieldType)) a0 Z = true := hw _ (List.mem_of_getElem? (i := 50) rfl)
theorem wd51 {a0 : Array Value} {Z : State} (hw : ∀ d ∈ tables_1, d.before a0 Z = true) : Jvm.Cond.before (Jvm.Cond.methodLink "com/example/sightline/sightline/checker/ByActivityDecayPinLaw" (25 : Nat) ({ cls := "com/example/sightline/sightline/checker/ByActivityDecayPinLaw", name := "decays", desc := "(Lcom/example/sightline/sightline/checker/ByActivity;I)V" } : Jvm.MethodName)) a0 Z = true := hw _ (List.mem_of_getElem? (i := 51) rfl)
theorem wd52 {a0 : Array Value} {Z : State} (hw : ∀ d ∈ tables_1, d.before a0 Z = true) : Jvm.Cond.before (Jvm.Cond.static ({ cls := "com/example/sightline/sightline/checker/ByActivityDecayPinLaw", name := "decays", desc := "(Lcom/example/sightline/sightline/checker/ByActivity;I)V" } : Jvm.MethodName)) a0 Z = true := hw _ (List.mem_of_getElem? (i := 52) rfl)
theorem wd53 {a0 : Array Value} {Z : State} (hw : ∀ d ∈ tables_1, d.before a0 Z = true) : Jvm.Cond.before (Jvm.Cond.code ({ cls := "com/example/sightline/sightline/checker/ByActivityDecayPinLaw", name := "decays", desc := "(Lcom/example/sightline/sightline/checker/ByActivity;I)V" } : Jvm.MethodName) method_3_code (2 : Nat) (Option.none : Option Jvm.ClassFile.FieldType)) a0 Z = true := hw _ (List.mem_of_getElem? (i := 53) rfl)
theorem wd54 {a0 : Array Value} {Z : State} (hw : ∀ d ∈ tables_1, d.before a0 Z = true) : Jvm.Cond.before (Jvm.Cond.methodLink "com/example/sightline/sightline/checker/ByActivityDecayPinLaw" (13 : Nat) ({ cls := "com/example/sightline/sightline/checker/ByActivity", name := "decay", desc := "()V" } : Jvm.MethodName)) a0 Z = true := hw _ (List.mem_of_getElem? (i := 54) rfl)
theorem wd55 {a0 : Array Value} {Z : State} (hw : ∀ d ∈ tables_1, d.before a0 Z = true) : Jvm.Cond.before (Jvm.Cond.declares ({ cls := "com/example/sightline/sightline/checker/ByActivity", name := "decay", desc := "()V" } : Jvm.MethodName)) a0 Z = true := hw _ (List.mem_of_getElem? (i := 55) rfl)
theorem wd56 {a0 : Array Value} {Z : State} (hw : ∀ d ∈ tables_1, d.before a0 Z = true) : Jvm.Cond.before (Jvm.Cond.instanceMethod ({ cls := "com/example/sightline/sightline/checker/ByActivity", name := "decay", desc := "()V" } : Jvm.MethodName)) a0 Z = true := hw _ (List.mem_of_getElem? (i := 56) rfl)
theorem wd57 {a0 : Array Value} {Z : State} (hw : ∀ d ∈ tables_1, d.before a0 Z = true) : Jvm.Cond.before (Jvm.Cond.selects "com/example/sightline/sightline/checker/ByActivity" ({ cls := "com/example/sightline/sightline/checker/ByActivity", name := "decay", desc := "()V" } : Jvm.MethodName) ({ cls := "com/example/sightline/sightline/checker/ByActivity", name := "decay", desc := "()V" } : Jvm.MethodName)) a0 Z = true := hw _ (List.mem_of_getElem? (i := 57) rfl)
theorem wd58 {a0 : Array Value} {Z : State} (hw : ∀ d ∈ tables_1, d.before a0 Z = true) : Jvm.Cond.before (Jvm.Cond.code ({ cls := "com/example/sightline/sightline/checker/ByActivity", name := "decay", desc := "()V" } : Jvm.MethodName) prog_2_method_3_code (1 : Nat) (Option.none : Option Jvm.ClassFile.FieldType)) a0 Z = true := hw _ (List.mem_of_getElem? (i := 58) rfl)
theorem wd59 {a0 : Array Value} {Z : State} (hw : ∀ d ∈ tables_1, d.before a0 Z = true) : Jvm.Cond.before (Jvm.Cond.constantDouble "com/example/sightline/sightline/checker/ByActivity" (46 : Nat) (4604480259023595110 : UInt64)) a0 Z = true := hw _ (List.mem_of_getElem? (i := 59) rfl)
theorem wd60 {a0 : Array Value} {Z : State} (hw : ∀ d ∈ tables_1, d.before a0 Z = true) : Jvm.Cond.before (Jvm.Cond.methodLink "com/example/sightline/sightline/checker/ByActivityDecayPinLaw" (29 : Nat) ({ cls := "com/example/sightline/sightline/checker/ByActivity", name := "pop", desc := "()I" } : Jvm.MethodName)) a0 Z = true := hw _ (List.mem_of_getElem? (i := 60) rfl)
theorem wd61 {a0 : Array Value} {Z : State} (hw : ∀ d ∈ tables_1, d.before a0 Z = true) : Jvm.Cond.before (Jvm.Cond.declares ({ cls := "com/example/sightline/sightline/checker/ByActivity", name := "pop", desc := "()I" } : Jvm.MethodName)) a0 Z = true := hw _ (List.mem_of_getElem? (i := 61) rfl)
theorem wd62 {a0 : Array Value} {Z : State} (hw : ∀ d ∈ tables_1, d.before a0 Z = true) : Jvm.Cond.before (Jvm.Cond.instanceMethod ({ cls := "com/example/sightline/sightline/checker/ByActivity", name := "pop", desc := "()I" } : Jvm.MethodName)) a0 Z = true := hw _ (List.mem_of_getElem? (i := 62) rfl)
theorem wd63 {a0 : Array Value} {Z : State} (hw : ∀ d ∈ tables_1, d.before a0 Z = true) : Jvm.Cond.before (Jvm.Cond.selects "com/example/sightline/sightline/checker/ByActivity" ({ cls := "com/example/sightline/sightline/checker/ByActivity", name := "pop", desc := "()I" } : Jvm.MethodName) ({ cls := "com/example/sightline/sightline/checker/ByActivity", name := "pop", desc := "()I" } : Jvm.MethodName)) a0 Z = true := hw _ (List.mem_of_getElem? (i := 63) rfl)
theorem wd64 {a0 : Array Value} {Z : State} (hw : ∀ d ∈ tables_1, d.before a0 Z = true) : Jvm.Cond.before (Jvm.Cond.code ({ cls := "com/example/sightline/sightline/checker/ByActivity", name := "pop", desc := "()I" } : Jvm.MethodName) prog_2_method_5_code (2 : Nat) (Option.some Jvm.ClassFile.FieldType.int)) a0 Z = true := hw _ (List.mem_of_getElem? (i := 64) rfl)
theorem wd65 {a0 : Array Value} {Z : State} (hw : ∀ d ∈ tables_1, d.before a0 Z = true) : Jvm.Cond.before (Jvm.Cond.methodLink "com/example/sightline/sightline/checker/ByActivity" (55 : Nat) ({ cls := "com/example/sightline/sightline/checker/ByActivity", name := "down", desc := "(I)V" } : Jvm.MethodName)) a0 Z = true := hw _ (List.mem_of_getElem? (i := 65) rfl)
theorem wd66 {a0 : Array Value} {Z : State} (hw : ∀ d ∈ tables_1, d.before a0 Z = true) : Jvm.Cond.before (Jvm.Cond.instanceMethod ({ cls := "com/example/sightline/sightline/checker/ByActivity", name := "down", desc := "(I)V" } : Jvm.MethodName)) a0 Z = true := hw _ (List.mem_of_getElem? (i := 66) rfl)
theorem wd67 {a0 : Array Value} {Z : State} (hw : ∀ d ∈ tables_1, d.before a0 Z = true) : Jvm.Cond.before (Jvm.Cond.privateMethod ({ cls := "com/example/sightline/sightline/checker/ByActivity", name := "down", desc := "(I)V" } : Jvm.MethodName)) a0 Z = true := hw _ (List.mem_of_getElem? (i := 67) rfl)
theorem wd68 {a0 : Array Value} {Z : State} (hw : ∀ d ∈ tables_1, d.before a0 Z = true) : Jvm.Cond.before (Jvm.Cond.code ({ cls := "com/example/sightline/sightline/checker/ByActivity", name := "down", desc := "(I)V" } : Jvm.MethodName) prog_2_method_9_code (4 : Nat) (Option.none : Option Jvm.ClassFile.FieldType)) a0 Z = true := hw _ (List.mem_of_getElem? (i := 68) rfl)
theorem sn_ByActivity_choices_gain {a0 : Array Value} {Z : State} (hw : ∀ d ∈ tables_1, d.before a0 Z = true) : Jvm.RoadKit.slotOf Z "com/example/sightline/sightline/checker/ByActivity" "choices" "I" ≠ Jvm.RoadKit.slotOf Z "com/example/sightline/sightline/checker/ByActivity" "gain" "D" := slot_ne (C := "com/example/sightline/sightline/checker/ByActivity") (a0 := a0) (t := .int) (t' := .double) (Or.inr (wd13 hw)) (Or.inl (wd11 hw)) (by decide) (by decide) (by decide)
theorem sn_ByActivity_activity_gain {a0 : Array Value} {Z : State} (hw : ∀ d ∈ tables_1, d.before a0 Z = true) : Jvm.RoadKit.slotOf Z "com/example/sightline/sightline/checker/ByActivity" "activity" "[D" ≠ Jvm.RoadKit.slotOf Z "com/example/sightline/sightline/checker/ByActivity" "gain" "D" := slot_ne (C := "com/example/sightline/sightline/checker/ByActivity") (a0 := a0) (t := (.array .double)) (t' := .double) (Or.inl (wd24 hw)) (Or.inl (wd11 hw)) (by decide) (by decide) (by decide)
theorem sn_ByActivity_heap_gain {a0 : Array Value} {Z : State} (hw : ∀ d ∈ tables_1, d.before a0 Z = true) : Jvm.RoadKit.slotOf Z "com/example/sightline/sightline/checker/ByActivity" "heap" "[I" ≠ Jvm.RoadKit.slotOf Z "com/example/sightline/sightline/checker/ByActivity" "gain" "D" := slot_ne (C := "com/example/sightline/sightline/checker/ByActivity") (a0 := a0) (t := (.array .int)) (t' := .double) (Or.inl (wd28 hw)) (Or.inl (wd11 hw)) (by decide) (by decide) (by decide)
theorem sn_ByActivity_slot_gain {a0 : Array Value} {Z : State} (hw : ∀ d ∈ tables_1, d.before a0 Z = true) : Jvm.RoadKit.slotOf Z "com/example/sightline/sightline/checker/ByActivity" "slot" "[I" ≠ Jvm.RoadKit.slotOf Z "com/example/sightline/sightline/checker/ByActivity" "gain" "D" := slot_ne (C := "com/example/sightline/sightline/checker/ByActivity") (a0 := a0) (t := (.array .int)) (t' := .double) (Or.inl (wd30 hw)) (Or.inl (wd11 hw)) (by decide) (by decide) (by decide)
theorem sn_ByActivity_count_gain {a0 : Array Value} {Z : State} (hw : ∀ d ∈ tables_1, d.before a0 Z = true) : Jvm.RoadKit.slotOf Z "com/example/sightline/sightline/checker/ByActivity" "count" "I" ≠ Jvm.RoadKit.slotOf Z "com/example/sightline/sightline/checker/ByActivity" "gain" "D" := slot_ne (C := "com/example/sightline/sightline/checker/ByActivity") (a0 := a0) (t := .int) (t' := .double) (Or.inl (wd42 hw)) (Or.inl (wd11 hw)) (by decide) (by decide) (by decide)
theorem sn_ByActivity_gain_choices {a0 : Array Value} {Z : State} (hw : ∀ d ∈ tables_1, d.before a0 Z = true) : Jvm.RoadKit.slotOf Z "com/example/sightline/sightline/checker/ByActivity" "gain" "D" ≠ Jvm.RoadKit.slotOf Z "com/example/sightline/sightline/checker/ByActivity" "choices" "I" := slot_ne (C := "com/example/sightline/sightline/checker/ByActivity") (a0 := a0) (t := .double) (t' := .int) (Or.inl (wd11 hw)) (Or.inr (wd13 hw)) (by decide) (by decide) (by decide)
theorem sn_ByActivity_activity_choices {a0 : Array Value} {Z : State} (hw : ∀ d ∈ tables_1, d.before a0 Z = true) : Jvm.RoadKit.slotOf Z "com/example/sightline/sightline/checker/ByActivity" "activity" "[D" ≠ Jvm.RoadKit.slotOf Z "com/example/sightline/sightline/checker/ByActivity" "choices" "I" := slot_ne (C := "com/example/sightline/sightline/checker/ByActivity") (a0 := a0) (t := (.array .double)) (t' := .int) (Or.inl (wd24 hw)) (Or.inr (wd13 hw)) (by decide) (by decide) (by decide)
theorem sn_ByActivity_heap_choices {a0 : Array Value} {Z : State} (hw : ∀ d ∈ tables_1, d.before a0 Z = true) : Jvm.RoadKit.slotOf Z "com/example/sightline/sightline/checker/ByActivity" "heap" "[I" ≠ Jvm.RoadKit.slotOf Z "com/example/sightline/sightline/checker/ByActivity" "choices" "I" := slot_ne (C := "com/example/sightline/sightline/checker/ByActivity") (a0 := a0) (t := (.array .int)) (t' := .int) (Or.inl (wd28 hw)) (Or.inr (wd13 hw)) (by decide) (by decide) (by decide)
theorem sn_ByActivity_slot_choices {a0 : Array Value} {Z : State} (hw : ∀ d ∈ tables_1, d.before a0 Z = true) : Jvm.RoadKit.slotOf Z "com/example/sightline/sightline/checker/ByActivity" "slot" "[I" ≠ Jvm.RoadKit.slotOf Z "com/example/sightline/sightline/checker/ByActivity" "choices" "I" := slot_ne (C := "com/example/sightline/sightline/checker/ByActivity") (a0 := a0) (t := (.array .int)) (t' := .int) (Or.inl (wd30 hw)) (Or.inr (wd13 hw)) (by decide) (by decide) (by decide)
theorem sn_ByActivity_count_choices {a0 : Array Value} {Z : State} (hw : ∀ d ∈ tables_1, d.before a0 Z = true) : Jvm.RoadKit.slotOf Z "com/example/sightline/sightline/checker/ByActivity" "count" "I" ≠ Jvm.RoadKit.slotOf Z "com/example/sightline/sightline/checker/ByActivity" "choices" "I" := slot_ne (C := "com/example/sightline/sightline/checker/ByActivity") (a0 := a0) (t := .int) (t' := .int) (Or.inl (wd42 hw)) (Or.inr (wd13 hw)) (by decide) (by decide) (by decide)
theorem sn_ByActivity_activity_count {a0 : Array Value} {Z : State} (hw : ∀ d ∈ tables_1, d.before a0 Z = true) : Jvm.RoadKit.slotOf Z "com/example/sightline/sightline/checker/ByActivity" "activity" "[D" ≠ Jvm.RoadKit.slotOf Z "com/example/sightline/sightline/checker/ByActivity" "count" "I" := slot_ne (C := "com/example/sightline/sightline/checker/ByActivity") (a0 := a0) (t := (.array .double)) (t' := .int) (Or.inl (wd24 hw)) (Or.inl (wd42 hw)) (by decide) (by decide) (by decide)
theorem sn_ByActivity_heap_count {a0 : Array Value} {Z : State} (hw : ∀ d ∈ tables_1, d.before a0 Z = true) : Jvm.RoadKit.slotOf Z "com/example/sightline/sightline/checker/ByActivity" "heap" "[I" ≠ Jvm.RoadKit.slotOf Z "com/example/sightline/sightline/checker/ByActivity" "count" "I" := slot_ne (C := "com/example/sightline/sightline/checker/ByActivity") (a0 := a0) (t := (.array .int)) (t' := .int) (Or.inl (wd28 hw)) (Or.inl (wd42 hw)) (by decide) (by decide) (by decide)
theorem sn_ByActivity_slot_count {a0 : Array Value} {Z : State} (hw : ∀ d ∈ tables_1, d.before a0 Z = true) : Jvm.RoadKit.slotOf Z "com/example/sightline/sightline/checker/ByActivity" "slot" "[I" ≠ Jvm.RoadKit.slotOf Z "com/example/sightline/sightline/checker/ByActivity" "count" "I" := slot_ne (C := "com/example/sightline/sightline/checker/ByActivity") (a0 := a0) (t := (.array .int)) (t' := .int) (Or.inl (wd30 hw)) (Or.inl (wd42 hw)) (by decide) (by decide) (by decide)
theorem sn_ByActivity_gain_count {a0 : Array Value} {Z : State} (hw : ∀ d ∈ tables_1, d.before a0 Z = true) : Jvm.RoadKit.slotOf Z "com/example/sightline/sightline/checker/ByActivity" "gain" "D" ≠ Jvm.RoadKit.slotOf Z "com/example/sightline/sightline/checker/ByActivity" "count" "I" := slot_ne (C := "com/example/sightline/sightline/checker/ByActivity") (a0 := a0) (t := .double) (t' := .int) (Or.inl (wd11 hw)) (Or.inl (wd42 hw)) (by decide) (by decide) (by decide)
theorem sn_ByActivity_choices_count {a0 : Array Value} {Z : State} (hw : ∀ d ∈ tables_1, d.before a0 Z = true) : Jvm.RoadKit.slotOf Z "com/example/sightline/sightline/checker/ByActivity" "choices" "I" ≠ Jvm.RoadKit.slotOf Z "com/example/sightline/sightline/checker/ByActivity" "count" "I" := slot_ne (C := "com/example/sightline/sightline/checker/ByActivity") (a0 := a0) (t := .int) (t' := .int) (Or.inr (wd13 hw)) (Or.inl (wd42 hw)) (by decide) (by decide) (by decide)
theorem sn_ByActivity_heap_activity {a0 : Array Value} {Z : State} (hw : ∀ d ∈ tables_1, d.before a0 Z = true) : Jvm.RoadKit.slotOf Z "com/example/sightline/sightline/checker/ByActivity" "heap" "[I" ≠ Jvm.RoadKit.slotOf Z "com/example/sightline/sightline/checker/ByActivity" "activity" "[D" := slot_ne (C := "com/example/sightline/sightline/checker/ByActivity") (a0 := a0) (t := (.array .int)) (t' := (.array .double)) (Or.inl (wd28 hw)) (Or.inl (wd24 hw)) (by decide) (by decide) (by decide)
theorem sn_ByActivity_slot_activity {a0 : Array Value} {Z : State} (hw : ∀ d ∈ tables_1, d.before a0 Z = true) : Jvm.RoadKit.slotOf Z "com/example/sightline/sightline/checker/ByActivity" "slot" "[I" ≠ Jvm.RoadKit.slotOf Z "com/example/sightline/sightline/checker/ByActivity" "activity" "[D" := slot_ne (C := "com/example/sightline/sightline/checker/ByActivity") (a0 := a0) (t := (.array .int)) (t' := (.array .double)) (Or.inl (wd30 hw)) (Or.inl (wd24 hw)) (by decide) (by decide) (by decide)
theorem sn_ByActivity_count_activity {a0 : Array Value} {Z : State} (hw : ∀ d ∈ tables_1, d.before a0 Z = true) : Jvm.RoadKit.slotOf Z "com/example/sightline/sightline/checker/ByActivity" "count" "I" ≠ Jvm.RoadKit.slotOf Z "com/example/sightline/sightline/checker/ByActivity" "activity" "[D" := slot_ne (C := "com/example/sightline/sightline/checker/ByActivity") (a0 := a0) (t := .int) (t' := (.array .double)) (Or.inl (wd42 hw)) (Or.inl (wd24 hw)) (by decide) (by decide) (by decide)
theorem sn_ByActivity_gain_activity {a0 : Array Value} {Z : State} (hw : ∀ d ∈ tables_1, d.before a0 Z = true) : Jvm.RoadKit.slotOf Z "com/example/sightline/sightline/checker/ByActivity" "gain" "D" ≠ Jvm.RoadKit.slotOf Z "com/example/sightline/sightline/checker/ByActivity" "activity" "[D" := slot_ne (C := "com/example/sightline/sightline/checker/ByActivity") (a0 := a0) (t := .double) (t' := (.array .double)) (Or.inl (wd11 hw)) (Or.inl (wd24 hw)) (by decide) (by decide) (by decide)
theorem sn_ByActivity_choices_activity {a0 : Array Value} {Z : State} (hw : ∀ d ∈ tables_1, d.before a0 Z = true) : Jvm.RoadKit.slotOf Z "com/example/sightline/sightline/checker/ByActivity" "choices" "I" ≠ Jvm.RoadKit.slotOf Z "com/example/sightline/sightline/checker/ByActivity" "activity" "[D" := slot_ne (C := "com/example/sightline/sightline/checker/ByActivity") (a0 := a0) (t := .int) (t' := (.array .double)) (Or.inr (wd13 hw)) (Or.inl (wd24 hw)) (by decide) (by decide) (by decide)
theorem sn_ByActivity_activity_heap {a0 : Array Value} {Z : State} (hw : ∀ d ∈ tables_1, d.before a0 Z = true) : Jvm.RoadKit.slotOf Z "com/example/sightline/sightline/checker/ByActivity" "activity" "[D" ≠ Jvm.RoadKit.slotOf Z "com/example/sightline/sightline/checker/ByActivity" "heap" "[I" := slot_ne (C := "com/example/sightline/sightline/checker/ByActivity") (a0 := a0) (t := (.array .double)) (t' := (.array .int)) (Or.inl (wd24 hw)) (Or.inl (wd28 hw)) (by decide) (by decide) (by decide)
theorem sn_ByActivity_slot_heap {a0 : Array Value} {Z : State} (hw : ∀ d ∈ tables_1, d.before a0 Z = true) : Jvm.RoadKit.slotOf Z "com/example/sightline/sightline/checker/ByActivity" "slot" "[I" ≠ Jvm.RoadKit.slotOf Z "com/example/sightline/sightline/checker/ByActivity" "heap" "[I" := slot_ne (C := "com/example/sightline/sightline/checker/ByActivity") (a0 := a0) (t := (.array .int)) (t' := (.array .int)) (Or.inl (wd30 hw)) (Or.inl (wd28 hw)) (by decide) (by decide) (by decide)
theorem sn_ByActivity_count_heap {a0 : Array Value} {Z : State} (hw : ∀ d ∈ tables_1, d.before a0 Z = true) : Jvm.RoadKit.slotOf Z "com/example/sightline/sightline/checker/ByActivity" "count" "I" ≠ Jvm.RoadKit.slotOf Z "com/example/sightline/sightline/checker/ByActivity" "heap" "[I" := slot_ne (C := "com/example/sightline/sightline/checker/ByActivity") (a0 := a0) (t := .int) (t' := (.array .int)) (Or.inl (wd42 hw)) (Or.inl (wd28 hw)) (by decide) (by decide) (by decide)
theorem sn_ByActivity_gain_heap {a0 : Array Value} {Z : State} (hw : ∀ d ∈ tables_1, d.before a0 Z = true) : Jvm.RoadKit.slotOf Z "com/example/sightline/sightline/checker/ByActivity" "gain" "D" ≠ Jvm.RoadKit.slotOf Z "com/example/sightline/sightline/checker/ByActivity" "heap" "[I" := slot_ne (C := "com/example/sightline/sightline/checker/ByActivity") (a0 := a0) (t := .double) (t' := (.array .int)) (Or.inl (wd11 hw)) (Or.inl (wd28 hw)) (by decide) (by decide) (by decide)
theorem sn_ByActivity_choices_heap {a0 : Array Value} {Z : State} (hw : ∀ d ∈ tables_1, d.before a0 Z = true) : Jvm.RoadKit.slotOf Z "com/example/sightline/sightline/checker/ByActivity" "choices" "I" ≠ Jvm.RoadKit.slotOf Z "com/example/sightline/sightline/checker/ByActivity" "heap" "[I" := slot_ne (C := "com/example/sightline/sightline/checker/ByActivity") (a0 := a0) (t := .int) (t' := (.array .int)) (Or.inr (wd13 hw)) (Or.inl (wd28 hw)) (by decide) (by decide) (by decide)
theorem sn_ByActivity_activity_slot {a0 : Array Value} {Z : State} (hw : ∀ d ∈ tables_1, d.before a0 Z = true) : Jvm.RoadKit.slotOf Z "com/example/sightline/sightline/checker/ByActivity" "activity" "[D" ≠ Jvm.RoadKit.slotOf Z "com/example/sightline/sightline/checker/ByActivity" "slot" "[I" := slot_ne (C := "com/example/sightline/sightline/checker/ByActivity") (a0 := a0) (t := (.array .double)) (t' := (.array .int)) (Or.inl (wd24 hw)) (Or.inl (wd30 hw)) (by decide) (by decide) (by decide)
theorem sn_ByActivity_heap_slot {a0 : Array Value} {Z : State} (hw : ∀ d ∈ tables_1, d.before a0 Z = true) : Jvm.RoadKit.slotOf Z "com/example/sightline/sightline/checker/ByActivity" "heap" "[I" ≠ Jvm.RoadKit.slotOf Z "com/example/sightline/sightline/checker/ByActivity" "slot" "[I" := slot_ne (C := "com/example/sightline/sightline/checker/ByActivity") (a0 := a0) (t := (.array .int)) (t' := (.array .int)) (Or.inl (wd28 hw)) (Or.inl (wd30 hw)) (by decide) (by decide) (by decide)
theorem sn_ByActivity_count_slot {a0 : Array Value} {Z : State} (hw : ∀ d ∈ tables_1, d.before a0 Z = true) : Jvm.RoadKit.slotOf Z "com/example/sightline/sightline/checker/ByActivity" "count" "I" ≠ Jvm.RoadKit.slotOf Z "com/example/sightline/sightline/checker/ByActivity" "slot" "[I" := slot_ne (C := "com/example/sightline/sightline/checker/ByActivity") (a0 := a0) (t := .int) (t' := (.array .int)) (Or.inl (wd42 hw)) (Or.inl (wd30 hw)) (by decide) (by decide) (by decide)
theorem sn_ByActivity_gain_slot {a0 : Array Value} {Z : State} (hw : ∀ d ∈ tables_1, d.before a0 Z = true) : Jvm.RoadKit.slotOf Z "com/example/sightline/sightline/checker/ByActivity" "gain" "D" ≠ Jvm.RoadKit.slotOf Z "com/example/sightline/sightline/checker/ByActivity" "slot" "[I" := slot_ne (C := "com/example/sightline/sightline/checker/ByActivity") (a0 := a0) (t := .double) (t' := (.array .int)) (Or.inl (wd11 hw)) (Or.inl (wd30 hw)) (by decide) (by decide) (by decide)
theorem sn_ByActivity_choices_slot {a0 : Array Value} {Z : State} (hw : ∀ d ∈ tables_1, d.before a0 Z = true) : Jvm.RoadKit.slotOf Z "com/example/sightline/sightline/checker/ByActivity" "choices" "I" ≠ Jvm.RoadKit.slotOf Z "com/example/sightline/sightline/checker/ByActivity" "slot" "[I" := slot_ne (C := "com/example/sightline/sightline/checker/ByActivity") (a0 := a0) (t := .int) (t' := (.array .int)) (Or.inr (wd13 hw)) (Or.inl (wd30 hw)) (by decide) (by decide) (by decide)
theorem pd0 : parseMethodDescriptor "(II)V" = some ⟨[.int, .int], none⟩ := by decide +kernel
theorem pd1 : parseMethodDescriptor "(I)V" = some ⟨[.int], none⟩ := by decide +kernel
theorem pd2 : parseMethodDescriptor "([II)V" = some ⟨[(.array .int), .int], none⟩ := by decide +kernel
theorem pd3 : parseMethodDescriptor "()V" = some ⟨[], none⟩ := by decide +kernel
theorem pd4 : parseMethodDescriptor "(Lcom/example/sightline/sightline/checker/ByActivity;II)V" = some ⟨[(.object "com/example/sightline/sightline/checker/ByActivity"), .int, .int], none⟩ := by decide +kernel
theorem pd5 : parseMethodDescriptor "(Lcom/example/sightline/sightline/checker/ByActivity;I)V" = some ⟨[(.object "com/example/sightline/sightline/checker/ByActivity"), .int], none⟩ := by decide +kernel
theorem pd6 : parseMethodDescriptor "()I" = some ⟨[], some .int⟩ := by decide +kernel
theorem pn0 : plainName "com/example/sightline/sightline/checker/ByActivity" = true := by first | (simp [plainName, overriddenIn]; done) | decide +kernel
theorem pn1 : plainName "java/util/Arrays" = true := by first | (simp [plainName, overriddenIn]; done) | decide +kernel
theorem pn2 : plainName "com/example/sightline/sightline/checker/ByActivityDecayPinLaw" = true := by first | (simp [plainName, overriddenIn]; done) | decide +kernel
theorem o_int {n : Nat} (h : n < 1000) : (Int32.ofNat n).toInt = (n : Int) := Int32.toInt_ofNat_of_lt (by omega)
theorem o_par {n : Nat} (h0 : 0 < n) (h : n < 1000) : (Int32.ofNat n - 1) / 2 = Int32.ofNat ((n - 1) / 2) := by
  apply Int32.toInt_inj.mp
  have e1 : (Int32.ofNat n - 1).toInt = n - 1 := by rw [Int32.toInt_sub, o_int h]; have := Int.bmod_eq_of_le (n := (n : Int) - (1 : Int32).toInt) (m := 2 ^ 32) (by simp; omega) (by simp; omega); rw [this]; simp
  rw [(c_idiv (Int32.ofNat n - 1) 2 2 (by decide) (by decide)).1 (by omega), e1, o_int (by omega)]; omega
theorem o_add1 {n : Nat} (h : n < 998) : Int32.ofNat n + 1 = Int32.ofNat (n + 1) := by
  apply Int32.toInt_inj.mp
  rw [Int32.toInt_add, o_int (by omega), o_int (by omega)]; have := Int.bmod_eq_of_le (n := (n : Int) + (1 : Int32).toInt) (m := 2 ^ 32) (by simp; omega) (by simp; omega); rw [this]; simp
theorem o_sub1 {n : Nat} (h0 : 0 < n) (h : n < 1000) : Int32.ofNat n - 1 = Int32.ofNat (n - 1) := by
  apply Int32.toInt_inj.mp
  rw [Int32.toInt_sub, o_int (by omega), o_int (by omega)]; have := Int.bmod_eq_of_le (n := (n : Int) - (1 : Int32).toInt) (m := 2 ^ 32) (by simp; omega) (by simp; omega); rw [this]; simp; omega
theorem o_kid1 {n : Nat} (h : n < 400) : 2 * Int32.ofNat n + 1 = Int32.ofNat (2 * n + 1) := by
  apply Int32.toInt_inj.mp
  have e1 : (2 * Int32.ofNat n).toInt = 2 * n := by rw [Int32.toInt_mul, o_int (by omega)]; exact Int.bmod_eq_of_le (by simp; omega) (by simp; omega)
  rw [Int32.toInt_add, e1, o_int (by omega)]; have := Int.bmod_eq_of_le (n := 2 * (n : Int) + (1 : Int32).toInt) (m := 2 ^ 32) (by simp; omega) (by simp; omega); rw [this]; simp
theorem o_lt {a b : Nat} (ha : a < 1000) (hb : b < 1000) : Int32.ofNat a < Int32.ofNat b ↔ a < b := by rw [Int32.lt_iff_toInt_lt, o_int ha, o_int hb]; omega
theorem o_pos {a : Nat} (ha : a < 1000) : 0 < Int32.ofNat a ↔ 0 < a := by rw [Int32.lt_iff_toInt_lt, o_int ha]; simp
theorem o_nm1 {a : Nat} (ha : a < 1000) : ¬ Int32.ofNat a = -1 := fun q => by have := o_int ha; rw [q] at this; simp at this
/-- the choice goes up -/
def upB (A : List UInt64) (c : Nat) (H : List Nat) (S : List Int32) (i : Nat) : List Nat × List Int32 :=
  if h : 0 < i then
    if FP.dcmp (A.getD (H.getD ((i - 1) / 2) 0) 0) (A.getD c 0) = some .lt then upB A c (H.set i (H.getD ((i - 1) / 2) 0)) (S.set (H.getD ((i - 1) / 2) 0) (Int32.ofNat i)) ((i - 1) / 2)
    else (H.set i c, S.set c (Int32.ofNat i))
  else (H.set i c, S.set c (Int32.ofNat i))
termination_by i
decreasing_by omega
section
variable {A : List UInt64} {c : Nat} {H : List Nat} {S : List Int32} {i n : Nat}
theorem upB_zero (h : ¬ 0 < i) : upB A c H S i = (H.set i c, S.set c (Int32.ofNat i)) := by rw [upB, dif_neg h]
theorem upB_stop (h : 0 < i) (q : ¬ FP.dcmp (A.getD (H.getD ((i - 1) / 2) 0) 0) (A.getD c 0) = some .lt) : upB A c H S i = (H.set i c, S.set c (Int32.ofNat i)) := by rw [upB, dif_pos h, if_neg q]
theorem upB_go (h : 0 < i) (q : FP.dcmp (A.getD (H.getD ((i - 1) / 2) 0) 0) (A.getD c 0) = some .lt) : upB A c H S i = upB A c (H.set i (H.getD ((i - 1) / 2) 0)) (S.set (H.getD ((i - 1) / 2) 0) (Int32.ofNat i)) ((i - 1) / 2) := by rw [upB, dif_pos h, if_pos q]
/-- the child to go on with -/
def kidB (A : List UInt64) (n : Nat) (H : List Nat) (i : Nat) : Nat := if 2 * i + 2 < n ∧ FP.dcmp (A.getD (H.getD (2 * i + 2) 0) 0) (A.getD (H.getD (2 * i + 1) 0) 0) = some .gt then 2 * i + 2 else 2 * i + 1
theorem kidB_bd (A : List UInt64) (n : Nat) (H : List Nat) (i : Nat) : kidB A n H i = 2 * i + 1 ∨ (kidB A n H i = 2 * i + 2 ∧ 2 * i + 2 < n) := by unfold kidB; split <;> omega
/-- the choice goes down -/
def downB (A : List UInt64) (n : Nat) (c : Nat) (H : List Nat) (S : List Int32) (i : Nat) : List Nat × List Int32 :=
  if h : 2 * i + 1 < n then
    if FP.dcmp (A.getD (H.getD (kidB A n H i) 0) 0) (A.getD c 0) = some .lt ∨ FP.dcmp (A.getD (H.getD (kidB A n H i) 0) 0) (A.getD c 0) = some .eq then (H.set i c, S.set c (Int32.ofNat i))
    else downB A n c (H.set i (H.getD (kidB A n H i) 0)) (S.set (H.getD (kidB A n H i) 0) (Int32.ofNat i)) (kidB A n H i)
  else (H.set i c, S.set c (Int32.ofNat i))
termination_by n - i
decreasing_by have := kidB_bd A n H i; omega
theorem downB_end (h : ¬ 2 * i + 1 < n) : downB A n c H S i = (H.set i c, S.set c (Int32.ofNat i)) := by rw [downB, dif_neg h]
theorem downB_stop (h : 2 * i + 1 < n) (q : Jvm.OwnWp.dle (FP.dcmp (A.getD (H.getD (kidB A n H i) 0) 0) (A.getD c 0))) : downB A n c H S i = (H.set i c, S.set c (Int32.ofNat i)) := by rw [downB, dif_pos h]; exact if_pos q
theorem downB_go (h : 2 * i + 1 < n) (q : ¬ Jvm.OwnWp.dle (FP.dcmp (A.getD (H.getD (kidB A n H i) 0) 0) (A.getD c 0))) : downB A n c H S i = downB A n c (H.set i (H.getD (kidB A n H i) 0)) (S.set (H.getD (kidB A n H i) 0) (Int32.ofNat i)) (kidB A n H i) := by rw [downB, dif_pos h]; exact if_neg q
end
/-- every entry of the heap is a choice -/
def Bd (N : Nat) (H : List Nat) : Prop := ∀ j, H.getD j 0 < N
theorem Bd.set {N : Nat} {H : List Nat} (h : Bd N H) (i : Nat) {c : Nat} (hc : c < N) : Bd N (H.set i c) := fun j => by
  rw [List.getD_eq_getElem?_getD, List.getElem?_set]
  split
  · split
    · exact hc
    · simp; omega
  · rw [← List.getD_eq_getElem?_getD]; exact h j
/-- push | pop on the lists -/
def pushB (A : List UInt64) (c : Nat) (H : List Nat) (S : List Int32) (n : Nat) : List Nat × List Int32 := upB A c (H.set n c) (S.set c (Int32.ofNat n)) n
def popB (A : List UInt64) (H : List Nat) (S : List Int32) (n : Nat) : List Nat × List Int32 :=
  if 0 < n - 1 then downB A (n - 1) (H.getD (n - 1) 0) (H.set 0 (H.getD (n - 1) 0)) ((S.set (H.getD 0 0) (-1)).set (H.getD (n - 1) 0) (Int32.ofNat 0)) 0 else (H, S.set (H.getD 0 0) (-1))
set_option maxRecDepth 65536 in
set_option maxHeartbeats 40000000 in
theorem c_init (l : Launch) (Z : State) (a0 : Array Value) (hw : ∀ d ∈ tables_1, d.before a0 Z = true) (ws : List Jvm.Cond) (b : Addr) (N : Nat) (h0 : Heap) (n0 : Nat) (Z0 : n0 ≤ h0.size) (E : Exa Z h0 b "com/example/sightline/sightline/checker/ByActivity") (ge_b : n0 ≤ b) (G1 : Fld Z h0 b "com/example/sightline/sightline/checker/ByActivity" "gain" "D" (.double 0)) (G2 : Fld Z h0 b "com/example/sightline/sightline/checker/ByActivity" "choices" "I" (.int 0)) (G3 : Fld Z h0 b "com/example/sightline/sightline/checker/ByActivity" "activity" "[D" .null) (G4 : Fld Z h0 b "com/example/sightline/sightline/checker/ByActivity" "heap" "[I" .null) (G5 : Fld Z h0 b "com/example/sightline/sightline/checker/ByActivity" "slot" "[I" .null) (G6 : Fld Z h0 b "com/example/sightline/sightline/checker/ByActivity" "count" "I" (.int 0)) :
    Ctr l Z (⟨"com/example/sightline/sightline/checker/ByActivity", "<init>", "(I)V"⟩ : MethodName) prog_2_method_1_code 2 none ws ({ frames := 1, cells := 0, slots := 0, locals := 12 } : Room) n0 #[(.ref b), (.int (Int32.ofNat N))] h0 (fun v h => v = none ∧ Keep h0 h [b] ∧ Fld Z h b "com/example/sightline/sightline/checker/ByActivity" "gain" "D" (.double 4607182418800017408) ∧ Fld Z h b "com/example/sightline/sightline/checker/ByActivity" "choices" "I" (.int (Int32.ofNat N)) ∧ Fld Z h b "com/example/sightline/sightline/checker/ByActivity" "activity" "[D" .null ∧ Fld Z h b "com/example/sightline/sightline/checker/ByActivity" "heap" "[I" .null ∧ Fld Z h b "com/example/sightline/sightline/checker/ByActivity" "slot" "[I" .null ∧ Fld Z h b "com/example/sightline/sightline/checker/ByActivity" "count" "I" (.int 0)) := by
  refine ctr (own := "com/example/sightline/sightline/checker/ByActivity") (nm := "<init>") rfl rfl (Ls := #[.val (.ref b), .val (.int (Int32.ofNat N))]) (plainFor_of_name pn0) (fun m => by first | (simp [entryFrame, mkF, argsToLocals, Value.category]; done) | rfl) ?_
  intro p e s m below meth c K eh
  have P0 := Keep.refl h0 [b]
  refine Jvm.OwnWp.aloadN K d_prog_2_method_1_0 rfl rfl (pc' := 1) rfl ?_
  refine initObj K (wd7 hw) (wd8 hw) (wd9 hw) d_prog_2_method_1_1 rfl (Nat.le_of_ble_eq_true rfl) (Nat.le_of_ble_eq_true rfl) (pc' := 4) rfl ?_
  refine Jvm.OwnWp.aloadN K d_prog_2_method_1_4 rfl rfl (pc' := 5) rfl ?_
  refine Jvm.OwnWp.dconst1 K d_prog_2_method_1_5 (v := (4607182418800017408 : UInt64)) rfl (pc' := 6) rfl ?_
  refine putf K (wd10 hw) Via.refl G1 E (Or.inl (wd11 hw)) (wd2 hw) (ty := .double) (by decide) rfl rfl ge_b d_prog_2_method_1_6 (pc' := 9) rfl ?_
  intro h1 W1
  have F1_choices_b := (Fld.other W1 G2 (Or.inr (sn_ByActivity_choices_gain hw)))
  have F1_activity_b := (Fld.other W1 G3 (Or.inr (sn_ByActivity_activity_gain hw)))
  have F1_heap_b := (Fld.other W1 G4 (Or.inr (sn_ByActivity_heap_gain hw)))
  have F1_slot_b := (Fld.other W1 G5 (Or.inr (sn_ByActivity_slot_gain hw)))
  have F1_count_b := (Fld.other W1 G6 (Or.inr (sn_ByActivity_count_gain hw)))
  have X1_b := (Exa.wr W1 E)
  have P1 := (P0.wr W1 (Or.inl (List.mem_of_getElem? (i := 0) rfl)))
  have F1_gain_b := Fld.same W1 G1
  refine Jvm.OwnWp.aloadN K d_prog_2_method_1_9 rfl rfl (pc' := 10) rfl ?_
  refine Jvm.OwnWp.iloadN K d_prog_2_method_1_10 rfl (pc' := 11) rfl ?_
  refine putf K (wd12 hw) Via.refl F1_choices_b X1_b (Or.inr ⟨(wd13 hw), rfl, rfl⟩) (wd2 hw) (ty := .int) (by decide) rfl rfl ge_b d_prog_2_method_1_11 (pc' := 14) rfl ?_
  intro h2 W2
  have F2_gain_b := (Fld.other W2 F1_gain_b (Or.inr (sn_ByActivity_gain_choices hw)))
  have F2_activity_b := (Fld.other W2 F1_activity_b (Or.inr (sn_ByActivity_activity_choices hw)))
  have F2_heap_b := (Fld.other W2 F1_heap_b (Or.inr (sn_ByActivity_heap_choices hw)))
  have F2_slot_b := (Fld.other W2 F1_slot_b (Or.inr (sn_ByActivity_slot_choices hw)))
  have F2_count_b := (Fld.other W2 F1_count_b (Or.inr (sn_ByActivity_count_choices hw)))
  have X2_b := (Exa.wr W2 X1_b)
  have P2 := (P1.wr W2 (Or.inl (List.mem_of_getElem? (i := 0) rfl)))
  have F2_choices_b := Fld.same W2 F1_choices_b
  refine retV K rfl d_prog_2_method_1_14 (Nat.le_of_ble_eq_true rfl) (Nat.le_of_ble_eq_true rfl) ?_
  exact ⟨rfl, P2, F2_gain_b, F2_choices_b, F2_activity_b, F2_heap_b, F2_slot_b, F2_count_b⟩
set_option maxRecDepth 65536 in
set_option maxHeartbeats 40000000 in
theorem c_place (l : Launch) (Z : State) (a0 : Array Value) (hw : ∀ d ∈ tables_1, d.before a0 Z = true) (ws : List Jvm.Cond) (b ha sa : Addr) (ch i : Nat) (Hl : List Nat) (Sl : List Int32) (h0 : Heap) (n0 : Nat) (Z0 : n0 ≤ h0.size) (hi : i < Hl.length) (hc : ch < Sl.length) (i9 : i < 1000) (c9 : ch < 1000) (F_heap : Fld Z h0 b "com/example/sightline/sightline/checker/ByActivity" "heap" "[I" (.ref ha)) (F_slot : Fld Z h0 b "com/example/sightline/sightline/checker/ByActivity" "slot" "[I" (.ref sa)) (VH : HV Z h0 ha Hl) (VS : IV Z h0 sa Sl) (ne_sa_ha : sa ≠ ha) (ne_ha_b : ha ≠ b) (ne_sa_b : sa ≠ b) (ge_ha : n0 ≤ ha) (ge_sa : n0 ≤ sa) :
    Ctr l Z (⟨"com/example/sightline/sightline/checker/ByActivity", "place", "(II)V"⟩ : MethodName) prog_2_method_10_code 3 none ws ({ frames := 0, cells := 0, slots := 0, locals := 0 } : Room) n0 #[(.ref b), (.int (Int32.ofNat ch)), (.int (Int32.ofNat i))] h0 (fun v h => v = none ∧ Keep h0 h [ha, sa] ∧ HV Z h ha (Hl.set i ch) ∧ IV Z h sa (Sl.set ch (Int32.ofNat i))) := by
  refine ctr (own := "com/example/sightline/sightline/checker/ByActivity") (nm := "place") rfl rfl (Ls := #[.val (.ref b), .val (.int (Int32.ofNat ch)), .val (.int (Int32.ofNat i))]) (plainFor_of_name pn0) (fun m => by first | (simp [entryFrame, mkF, argsToLocals, Value.category]; done) | rfl) ?_
  intro p e s m below meth c K eh
  have P0 := Keep.refl h0 [ha, sa]
  refine Jvm.OwnWp.aloadN K d_prog_2_method_10_0 rfl rfl (pc' := 1) rfl ?_
  refine Jvm.OwnWp.getf K (wd27 hw) Via.refl F_heap d_prog_2_method_10_1 (pc' := 4) rfl ?_
  refine Jvm.OwnWp.iloadN K d_prog_2_method_10_4 rfl (pc' := 5) rfl ?_
  refine Jvm.OwnWp.iloadN K d_prog_2_method_10_5 rfl (pc' := 6) rfl ?_
  refine iastore K (i := i) VH (o_int i9) (mapLt hi) ge_ha d_prog_2_method_10_6 (pc' := 7) rfl ?_
  intro h3 W3
  have F3_heap_b := (Fld.other W3 F_heap (Or.inl (Ne.symm ne_ha_b)))
  have F3_slot_b := (Fld.other W3 F_slot (Or.inl (Ne.symm ne_ha_b)))
  have V3_sa := (VS.other W3 ne_sa_ha)
  have P3 := (P0.wr W3 (Or.inl (List.mem_of_getElem? (i := 0) rfl)))
  have V3_ha := VH.set W3
  refine Jvm.OwnWp.aloadN K d_prog_2_method_10_7 rfl rfl (pc' := 8) rfl ?_
  refine Jvm.OwnWp.getf K (wd29 hw) Via.refl F3_slot_b d_prog_2_method_10_8 (pc' := 11) rfl ?_
  refine Jvm.OwnWp.iloadN K d_prog_2_method_10_11 rfl (pc' := 12) rfl ?_
  refine Jvm.OwnWp.iloadN K d_prog_2_method_10_12 rfl (pc' := 13) rfl ?_
  refine iastore K (i := ch) V3_sa (o_int c9) (mapLt hc) ge_sa d_prog_2_method_10_13 (pc' := 14) rfl ?_
  intro h4 W4
  have F4_heap_b := (Fld.other W4 F3_heap_b (Or.inl (Ne.symm ne_sa_b)))
  have F4_slot_b := (Fld.other W4 F3_slot_b (Or.inl (Ne.symm ne_sa_b)))
  have V4_ha := (V3_ha.other W4 (Ne.symm ne_sa_ha))
  have P4 := (P3.wr W4 (Or.inl (List.mem_of_getElem? (i := 1) rfl)))
  have V4_sa := V3_sa.set W4
  refine retV K rfl d_prog_2_method_10_14 (Nat.le_of_ble_eq_true rfl) (Nat.le_of_ble_eq_true rfl) ?_
  exact ⟨rfl, P4, V4_ha, V4_sa⟩
set_option maxRecDepth 65536 in
set_option maxHeartbeats 40000000 in
theorem c_up (l : Launch) (Z : State) (a0 : Array Value) (hw : ∀ d ∈ tables_1, d.before a0 Z = true) (ws : List Jvm.Cond) (b ka ha sa : Addr) (N i : Nat) (Al : List UInt64) (Hl : List Nat) (Sl : List Int32) (h0 : Heap) (n0 : Nat) (Z0 : n0 ≤ h0.size) (hA : Al.length = N) (hH : Hl.length = N) (hS : Sl.length = N) (N0 : 0 < N) (N9 : N < 100) (hB : Bd N Hl) (hiN : i < N) (E : Exa Z h0 b "com/example/sightline/sightline/checker/ByActivity") (F_act : Fld Z h0 b "com/example/sightline/sightline/checker/ByActivity" "activity" "[D" (.ref ka)) (F_heap : Fld Z h0 b "com/example/sightline/sightline/checker/ByActivity" "heap" "[I" (.ref ha)) (F_slot : Fld Z h0 b "com/example/sightline/sightline/checker/ByActivity" "slot" "[I" (.ref sa)) (VA : DV Z h0 ka Al) (VH : HV Z h0 ha Hl) (VS : IV Z h0 sa Sl) (ne_sa_ha : sa ≠ ha) (ne_ha_ka : ha ≠ ka) (ne_sa_ka : sa ≠ ka) (ne_ha_b : ha ≠ b) (ne_sa_b : sa ≠ b) (ge_ha : n0 ≤ ha) (ge_sa : n0 ≤ sa) :
    Ctr l Z (⟨"com/example/sightline/sightline/checker/ByActivity", "up", "(I)V"⟩ : MethodName) prog_2_method_8_code 3 none ws ({ frames := 1, cells := 0, slots := 0, locals := 14 } : Room) n0 #[(.ref b), (.int (Int32.ofNat i))] h0 (fun v h => v = none ∧ Keep h0 h [ha, sa] ∧ HV Z h ha (upB Al (Hl.getD i 0) Hl Sl i).1 ∧ IV Z h sa (upB Al (Hl.getD i 0) Hl Sl i).2) := by
  refine ctr (own := "com/example/sightline/sightline/checker/ByActivity") (nm := "up") rfl rfl (Ls := #[.val (.ref b), .val (.int (Int32.ofNat i)), .unset]) (plainFor_of_name pn0) (fun m => by first | (simp [entryFrame, mkF, argsToLocals, Value.category]; done) | rfl) ?_
  intro p e s m below meth c K eh
  have P0 := Keep.refl h0 [ha, sa]
  refine Jvm.OwnWp.aloadN K d_prog_2_method_8_0 rfl rfl (pc' := 1) rfl ?_
  refine Jvm.OwnWp.getf K (wd27 hw) Via.refl F_heap d_prog_2_method_8_1 (pc' := 4) rfl ?_
  refine Jvm.OwnWp.iloadN K d_prog_2_method_8_4 rfl (pc' := 5) rfl ?_
  refine iaload K (i := i) VH (o_int (by omega)) (mapAt (getDAt (d := 0) (by omega))) d_prog_2_method_8_5 (pc' := 6) rfl ?_
  refine Jvm.OwnWp.istoreN K d_prog_2_method_8_6 (Ls' := #[.val (.ref b), .val (.int (Int32.ofNat i)), .val (.int (Int32.ofNat (Hl.getD i 0)))]) rfl (pc' := 7) rfl ?_
  have hcN := hB i
  generalize hcc : Hl.getD i 0 = ch at *
  have loop : ∀ (j : Nat) (H' : List Nat) (S' : List Int32) (hh : Heap), j < N → H'.length = N → S'.length = N → Bd N H' → upB Al ch H' S' j = (upB Al ch Hl Sl i) → Keep h0 hh [ha, sa] → Exa Z hh b "com/example/sightline/sightline/checker/ByActivity" → Fld Z hh b "com/example/sightline/sightline/checker/ByActivity" "activity" "[D" (.ref ka) → Fld Z hh b "com/example/sightline/sightline/checker/ByActivity" "heap" "[I" (.ref ha) → Fld Z hh b "com/example/sightline/sightline/checker/ByActivity" "slot" "[I" (.ref sa) → DV Z hh ka Al → HV Z hh ha H' → IV Z hh sa S' → Go p l e ({ frames := 1, cells := 0, slots := 0, locals := 14 } : Room) s m #[(.ref b), (.int (Int32.ofNat i))] below meth c n0 hh 0 0 (mkF m 7 #[.val (.ref b), .val (.int (Int32.ofNat j)), .val (.int (Int32.ofNat ch))] []) (fun v h => v = none ∧ Keep h0 h [ha, sa] ∧ HV Z h ha (upB Al ch Hl Sl i).1 ∧ IV Z h sa (upB Al ch Hl Sl i).2) := by
    intro j
    induction j using Nat.strongRecOn with
    | _ j ih =>
      intro H' S' hh hj hH' hS' hB' hup LP LE LF_act LF_heap LF_slot LVA LVH LVS
      refine Jvm.OwnWp.iloadN K d_prog_2_method_8_7 rfl (pc' := 8) rfl ?_
      by_cases c1 : 0 < (Int32.ofNat j)
      · refine ifN K d_prog_2_method_8_8 (XT.i0_le_f c1) (pc' := 11) rfl ?_
        have j0 := (o_pos (by omega : j < 1000)).mp c1
        have hp := hB' ((j - 1) / 2)
        refine Jvm.OwnWp.aloadN K d_prog_2_method_8_11 rfl rfl (pc' := 12) rfl ?_
        refine Jvm.OwnWp.getf K (wd23 hw) Via.refl LF_act d_prog_2_method_8_12 (pc' := 15) rfl ?_
        refine Jvm.OwnWp.aloadN K d_prog_2_method_8_15 rfl rfl (pc' := 16) rfl ?_
        refine Jvm.OwnWp.getf K (wd27 hw) Via.refl LF_heap d_prog_2_method_8_16 (pc' := 19) rfl ?_
        refine Jvm.OwnWp.iloadN K d_prog_2_method_8_19 rfl (pc' := 20) rfl ?_
        refine Jvm.OwnWp.iconst K (1 : Int32) d_prog_2_method_8_20 (by decide) (pc' := 21) rfl ?_
        refine Jvm.OwnWp.isub K d_prog_2_method_8_21 (pc' := 22) rfl ?_
        refine Jvm.OwnWp.iconst K (2 : Int32) d_prog_2_method_8_22 (by decide) (pc' := 23) rfl ?_
        refine Jvm.OwnWp.idiv K d_prog_2_method_8_23 (by decide) (pc' := 24) rfl ?_
        rw [show ((Int32.ofNat j) - (1 : Int32)) / (2 : Int32) = Int32.ofNat ((j - 1) / 2) from o_par j0 (by omega)]
        refine iaload K (i := ((j - 1) / 2)) LVH (o_int (by omega)) (mapAt (getDAt (d := 0) (by omega))) d_prog_2_method_8_24 (pc' := 25) rfl ?_
        refine daload K (i := (H'.getD ((j - 1) / 2) 0)) LVA (o_int (by omega)) (mapAt (getDAt (d := 0) (by omega))) d_prog_2_method_8_25 (pc' := 26) rfl ?_
        refine Jvm.OwnWp.aloadN K d_prog_2_method_8_26 rfl rfl (pc' := 27) rfl ?_
        refine Jvm.OwnWp.getf K (wd23 hw) Via.refl LF_act d_prog_2_method_8_27 (pc' := 30) rfl ?_
        refine Jvm.OwnWp.iloadN K d_prog_2_method_8_30 rfl (pc' := 31) rfl ?_
        refine daload K (i := ch) LVA (o_int (by omega)) (mapAt (getDAt (d := 0) (by omega))) d_prog_2_method_8_31 (pc' := 32) rfl ?_
        refine Jvm.OwnWp.dcmp K d_prog_2_method_8_32 (pc' := 33) rfl ?_
        by_cases c2 : FP.dcmp (Al.getD (H'.getD ((j - 1) / 2) 0) 0) (Al.getD ch 0) = some .lt
        · refine ifN K d_prog_2_method_8_33 (dd_g_ge_f c2) (pc' := 36) rfl ?_
          refine Jvm.OwnWp.aloadN K d_prog_2_method_8_36 rfl rfl (pc' := 37) rfl ?_
          refine Jvm.OwnWp.aloadN K d_prog_2_method_8_37 rfl rfl (pc' := 38) rfl ?_
          refine Jvm.OwnWp.getf K (wd27 hw) Via.refl LF_heap d_prog_2_method_8_38 (pc' := 41) rfl ?_
          refine Jvm.OwnWp.iloadN K d_prog_2_method_8_41 rfl (pc' := 42) rfl ?_
          refine Jvm.OwnWp.iconst K (1 : Int32) d_prog_2_method_8_42 (by decide) (pc' := 43) rfl ?_
          refine Jvm.OwnWp.isub K d_prog_2_method_8_43 (pc' := 44) rfl ?_
          refine Jvm.OwnWp.iconst K (2 : Int32) d_prog_2_method_8_44 (by decide) (pc' := 45) rfl ?_
          refine Jvm.OwnWp.idiv K d_prog_2_method_8_45 (by decide) (pc' := 46) rfl ?_
          rw [show ((Int32.ofNat j) - (1 : Int32)) / (2 : Int32) = Int32.ofNat ((j - 1) / 2) from o_par j0 (by omega)]
          refine iaload K (i := ((j - 1) / 2)) LVH (o_int (by omega)) (mapAt (getDAt (d := 0) (by omega))) d_prog_2_method_8_46 (pc' := 47) rfl ?_
          refine Jvm.OwnWp.iloadN K d_prog_2_method_8_47 rfl (pc' := 48) rfl ?_
          refine callPriv K (y := (⟨"com/example/sightline/sightline/checker/ByActivity", "place", "(II)V"⟩ : MethodName)) (b := b) (argsL := [(.int (Int32.ofNat (H'.getD ((j - 1) / 2) 0))), (.int (Int32.ofNat j))]) (S := []) (wd43 hw) (wd44 hw) (wd45 hw) (wd2 hw) (wd3 hw) (wd46 hw) (by decide) LE (c_place l Z a0 hw [] b ha sa (H'.getD ((j - 1) / 2) 0) j H' S' hh n0 (Nat.le_trans Z0 LP.1) (by omega) (by omega) (by omega) (by omega) LF_heap LF_slot LVH LVS ne_sa_ha ne_ha_b ne_sa_b ge_ha ge_sa) (lenOf pd0 rfl) d_prog_2_method_8_48 rfl (Nat.le_of_ble_eq_true rfl) (Nat.le_of_ble_eq_true rfl) (Nat.le_of_ble_eq_true rfl) (Nat.le_of_ble_eq_true rfl) rfl (pc' := 51) rfl ?_
          rintro v5 h5 ⟨rfl, K5, Q5_VH, Q5_VS⟩
          have F5_activity_b := (Fld.keep LF_act K5 (ninS (Ne.symm ne_ha_b) (ninS (Ne.symm ne_sa_b) (nin0))))
          have F5_heap_b := (Fld.keep LF_heap K5 (ninS (Ne.symm ne_ha_b) (ninS (Ne.symm ne_sa_b) (nin0))))
          have F5_slot_b := (Fld.keep LF_slot K5 (ninS (Ne.symm ne_ha_b) (ninS (Ne.symm ne_sa_b) (nin0))))
          have X5_b := (Exa.keep LE K5)
          have V5_ka := (LVA.keep K5 (ninS (Ne.symm ne_ha_ka) (ninS (Ne.symm ne_sa_ka) (nin0))))
          have P5 := (LP.trans K5 (allS (Or.inl (List.mem_of_getElem? (i := 0) rfl)) (allS (Or.inl (List.mem_of_getElem? (i := 1) rfl)) (all0))))
          show Go _ _ _ _ _ _ _ _ _ _ _ h5 0 0 (mkF m 51 #[.val (.ref b), .val (.int (Int32.ofNat j)), .val (.int (Int32.ofNat ch))] []) _
          refine Jvm.OwnWp.iloadN K d_prog_2_method_8_51 rfl (pc' := 52) rfl ?_
          refine Jvm.OwnWp.iconst K (1 : Int32) d_prog_2_method_8_52 (by decide) (pc' := 53) rfl ?_
          refine Jvm.OwnWp.isub K d_prog_2_method_8_53 (pc' := 54) rfl ?_
          refine Jvm.OwnWp.iconst K (2 : Int32) d_prog_2_method_8_54 (by decide) (pc' := 55) rfl ?_
          refine Jvm.OwnWp.idiv K d_prog_2_method_8_55 (by decide) (pc' := 56) rfl ?_
          rw [show ((Int32.ofNat j) - (1 : Int32)) / (2 : Int32) = Int32.ofNat ((j - 1) / 2) from o_par j0 (by omega)]
          refine Jvm.OwnWp.istoreN K d_prog_2_method_8_56 (Ls' := #[.val (.ref b), .val (.int (Int32.ofNat ((j - 1) / 2))), .val (.int (Int32.ofNat ch))]) rfl (pc' := 57) rfl ?_
          refine goto' K d_prog_2_method_8_57 (pc' := 7) (by decide) (by decide) ?_
          exact ih _ (by omega) _ _ _ (by omega) (by rw [List.length_set]; exact hH') (by rw [List.length_set]; exact hS') (hB'.set j hp) ((upB_go j0 c2).symm.trans hup) P5 X5_b F5_activity_b F5_heap_b F5_slot_b V5_ka Q5_VH Q5_VS
        · refine ifY K d_prog_2_method_8_33 (dd_g_ge_t c2) (pc' := 60) (by decide) (by decide) ?_
          have e := hup.symm.trans (upB_stop j0 c2)
          refine Jvm.OwnWp.aloadN K d_prog_2_method_8_60 rfl rfl (pc' := 61) rfl ?_
          refine Jvm.OwnWp.iloadN K d_prog_2_method_8_61 rfl (pc' := 62) rfl ?_
          refine Jvm.OwnWp.iloadN K d_prog_2_method_8_62 rfl (pc' := 63) rfl ?_
          refine callPriv K (y := (⟨"com/example/sightline/sightline/checker/ByActivity", "place", "(II)V"⟩ : MethodName)) (b := b) (argsL := [(.int (Int32.ofNat ch)), (.int (Int32.ofNat j))]) (S := []) (wd43 hw) (wd44 hw) (wd45 hw) (wd2 hw) (wd3 hw) (wd46 hw) (by decide) LE (c_place l Z a0 hw [] b ha sa ch j H' S' hh n0 (Nat.le_trans Z0 LP.1) (by omega) (by omega) (by omega) (by omega) LF_heap LF_slot LVH LVS ne_sa_ha ne_ha_b ne_sa_b ge_ha ge_sa) (lenOf pd0 rfl) d_prog_2_method_8_63 rfl (Nat.le_of_ble_eq_true rfl) (Nat.le_of_ble_eq_true rfl) (Nat.le_of_ble_eq_true rfl) (Nat.le_of_ble_eq_true rfl) rfl (pc' := 66) rfl ?_
          rintro v6 h6 ⟨rfl, K6, Q6_VH, Q6_VS⟩
          have F6_activity_b := (Fld.keep LF_act K6 (ninS (Ne.symm ne_ha_b) (ninS (Ne.symm ne_sa_b) (nin0))))
          have F6_heap_b := (Fld.keep LF_heap K6 (ninS (Ne.symm ne_ha_b) (ninS (Ne.symm ne_sa_b) (nin0))))
          have F6_slot_b := (Fld.keep LF_slot K6 (ninS (Ne.symm ne_ha_b) (ninS (Ne.symm ne_sa_b) (nin0))))
          have X6_b := (Exa.keep LE K6)
          have V6_ka := (LVA.keep K6 (ninS (Ne.symm ne_ha_ka) (ninS (Ne.symm ne_sa_ka) (nin0))))
          have P6 := (LP.trans K6 (allS (Or.inl (List.mem_of_getElem? (i := 0) rfl)) (allS (Or.inl (List.mem_of_getElem? (i := 1) rfl)) (all0))))
          show Go _ _ _ _ _ _ _ _ _ _ _ h6 0 0 (mkF m 66 #[.val (.ref b), .val (.int (Int32.ofNat j)), .val (.int (Int32.ofNat ch))] []) _
          refine retV K rfl d_prog_2_method_8_66 (Nat.le_of_ble_eq_true rfl) (Nat.le_of_ble_eq_true rfl) ?_
          rw [e]
          exact ⟨rfl, P6, Q6_VH, Q6_VS⟩
      · refine ifY K d_prog_2_method_8_8 (XT.i0_le_t c1) (pc' := 60) (by decide) (by decide) ?_
        have e := hup.symm.trans (upB_zero (fun q => c1 ((o_pos (by omega)).mpr q)))
        refine Jvm.OwnWp.aloadN K d_prog_2_method_8_60 rfl rfl (pc' := 61) rfl ?_
        refine Jvm.OwnWp.iloadN K d_prog_2_method_8_61 rfl (pc' := 62) rfl ?_
        refine Jvm.OwnWp.iloadN K d_prog_2_method_8_62 rfl (pc' := 63) rfl ?_
        refine callPriv K (y := (⟨"com/example/sightline/sightline/checker/ByActivity", "place", "(II)V"⟩ : MethodName)) (b := b) (argsL := [(.int (Int32.ofNat ch)), (.int (Int32.ofNat j))]) (S := []) (wd43 hw) (wd44 hw) (wd45 hw) (wd2 hw) (wd3 hw) (wd46 hw) (by decide) LE (c_place l Z a0 hw [] b ha sa ch j H' S' hh n0 (Nat.le_trans Z0 LP.1) (by omega) (by omega) (by omega) (by omega) LF_heap LF_slot LVH LVS ne_sa_ha ne_ha_b ne_sa_b ge_ha ge_sa) (lenOf pd0 rfl) d_prog_2_method_8_63 rfl (Nat.le_of_ble_eq_true rfl) (Nat.le_of_ble_eq_true rfl) (Nat.le_of_ble_eq_true rfl) (Nat.le_of_ble_eq_true rfl) rfl (pc' := 66) rfl ?_
        rintro v7 h7 ⟨rfl, K7, Q7_VH, Q7_VS⟩
        have F7_activity_b := (Fld.keep LF_act K7 (ninS (Ne.symm ne_ha_b) (ninS (Ne.symm ne_sa_b) (nin0))))
        have F7_heap_b := (Fld.keep LF_heap K7 (ninS (Ne.symm ne_ha_b) (ninS (Ne.symm ne_sa_b) (nin0))))
        have F7_slot_b := (Fld.keep LF_slot K7 (ninS (Ne.symm ne_ha_b) (ninS (Ne.symm ne_sa_b) (nin0))))
        have X7_b := (Exa.keep LE K7)
        have V7_ka := (LVA.keep K7 (ninS (Ne.symm ne_ha_ka) (ninS (Ne.symm ne_sa_ka) (nin0))))
        have P7 := (LP.trans K7 (allS (Or.inl (List.mem_of_getElem? (i := 0) rfl)) (allS (Or.inl (List.mem_of_getElem? (i := 1) rfl)) (all0))))
        show Go _ _ _ _ _ _ _ _ _ _ _ h7 0 0 (mkF m 66 #[.val (.ref b), .val (.int (Int32.ofNat j)), .val (.int (Int32.ofNat ch))] []) _
        refine retV K rfl d_prog_2_method_8_66 (Nat.le_of_ble_eq_true rfl) (Nat.le_of_ble_eq_true rfl) ?_
        rw [e]
        exact ⟨rfl, P7, Q7_VH, Q7_VS⟩
  exact loop i Hl Sl _ hiN hH hS hB rfl P0 E F_act F_heap F_slot VA VH VS
set_option maxRecDepth 65536 in
set_option maxHeartbeats 40000000 in
theorem c_push (l : Launch) (Z : State) (a0 : Array Value) (hw : ∀ d ∈ tables_1, d.before a0 Z = true) (ws : List Jvm.Cond) (b ka ha sa : Addr) (N n : Nat) (g : UInt64) (Al : List UInt64) (Hl : List Nat) (Sl : List Int32) (ch : Nat) (h0 : Heap) (n0 : Nat) (Z0 : n0 ≤ h0.size) (hA : Al.length = N) (hH : Hl.length = N) (hS : Sl.length = N) (N0 : 0 < N) (N9 : N < 100) (hB : Bd N Hl) (hn : n < N) (hc : ch < N) (E : Exa Z h0 b "com/example/sightline/sightline/checker/ByActivity") (F_act : Fld Z h0 b "com/example/sightline/sightline/checker/ByActivity" "activity" "[D" (.ref ka)) (F_heap : Fld Z h0 b "com/example/sightline/sightline/checker/ByActivity" "heap" "[I" (.ref ha)) (F_slot : Fld Z h0 b "com/example/sightline/sightline/checker/ByActivity" "slot" "[I" (.ref sa)) (F_count : Fld Z h0 b "com/example/sightline/sightline/checker/ByActivity" "count" "I" (.int (Int32.ofNat n))) (F_gain : Fld Z h0 b "com/example/sightline/sightline/checker/ByActivity" "gain" "D" (.double g)) (F_choices : Fld Z h0 b "com/example/sightline/sightline/checker/ByActivity" "choices" "I" (.int (Int32.ofNat N))) (VA : DV Z h0 ka Al) (VH : HV Z h0 ha Hl) (VS : IV Z h0 sa Sl) (ne_ka_b : ka ≠ b) (ne_ha_b : ha ≠ b) (ne_sa_b : sa ≠ b) (ne_ha_ka : ha ≠ ka) (ne_sa_ka : sa ≠ ka) (ne_sa_ha : sa ≠ ha) (ge_b : n0 ≤ b) (ge_ka : n0 ≤ ka) (ge_ha : n0 ≤ ha) (ge_sa : n0 ≤ sa) :
    Ctr l Z (⟨"com/example/sightline/sightline/checker/ByActivity", "push", "(I)V"⟩ : MethodName) prog_2_method_6_code 2 none ws ({ frames := 2, cells := 0, slots := 0, locals := 28 } : Room) n0 #[(.ref b), (.int (Int32.ofNat ch))] h0 (fun v h => v = none ∧ Keep h0 h [b, ha, sa] ∧ Exa Z h b "com/example/sightline/sightline/checker/ByActivity" ∧ Fld Z h b "com/example/sightline/sightline/checker/ByActivity" "activity" "[D" (.ref ka) ∧ Fld Z h b "com/example/sightline/sightline/checker/ByActivity" "heap" "[I" (.ref ha) ∧ Fld Z h b "com/example/sightline/sightline/checker/ByActivity" "slot" "[I" (.ref sa) ∧ Fld Z h b "com/example/sightline/sightline/checker/ByActivity" "count" "I" (.int (Int32.ofNat (n + 1))) ∧ Fld Z h b "com/example/sightline/sightline/checker/ByActivity" "gain" "D" (.double g) ∧ Fld Z h b "com/example/sightline/sightline/checker/ByActivity" "choices" "I" (.int (Int32.ofNat N)) ∧ DV Z h ka Al ∧ HV Z h ha (pushB Al ch Hl Sl n).1 ∧ IV Z h sa (pushB Al ch Hl Sl n).2) := by
  refine ctr (own := "com/example/sightline/sightline/checker/ByActivity") (nm := "push") rfl rfl (Ls := #[.val (.ref b), .val (.int (Int32.ofNat ch))]) (plainFor_of_name pn0) (fun m => by first | (simp [entryFrame, mkF, argsToLocals, Value.category]; done) | rfl) ?_
  intro p e s m below meth c K eh
  have P0 := Keep.refl h0 [b, ha, sa]
  refine Jvm.OwnWp.aloadN K d_prog_2_method_6_0 rfl rfl (pc' := 1) rfl ?_
  refine Jvm.OwnWp.iloadN K d_prog_2_method_6_1 rfl (pc' := 2) rfl ?_
  refine Jvm.OwnWp.aloadN K d_prog_2_method_6_2 rfl rfl (pc' := 3) rfl ?_
  refine Jvm.OwnWp.dup K d_prog_2_method_6_3 rfl (pc' := 4) rfl ?_
  refine Jvm.OwnWp.getf K (wd41 hw) Via.refl F_count d_prog_2_method_6_4 (pc' := 7) rfl ?_
  refine Jvm.OwnWp.dupX1 K d_prog_2_method_6_7 rfl rfl (pc' := 8) rfl ?_
  refine Jvm.OwnWp.iconst K (1 : Int32) d_prog_2_method_6_8 (by decide) (pc' := 9) rfl ?_
  refine Jvm.OwnWp.iadd K d_prog_2_method_6_9 (pc' := 10) rfl ?_
  rw [show (Int32.ofNat n) + (1 : Int32) = Int32.ofNat (n + 1) from o_add1 (by omega)]
  refine putf K (wd41 hw) Via.refl F_count E (Or.inl (wd42 hw)) (wd2 hw) (ty := .int) (by decide) rfl rfl ge_b d_prog_2_method_6_10 (pc' := 13) rfl ?_
  intro h8 W8
  have F8_activity_b := (Fld.other W8 F_act (Or.inr (sn_ByActivity_activity_count hw)))
  have F8_heap_b := (Fld.other W8 F_heap (Or.inr (sn_ByActivity_heap_count hw)))
  have F8_slot_b := (Fld.other W8 F_slot (Or.inr (sn_ByActivity_slot_count hw)))
  have F8_gain_b := (Fld.other W8 F_gain (Or.inr (sn_ByActivity_gain_count hw)))
  have F8_choices_b := (Fld.other W8 F_choices (Or.inr (sn_ByActivity_choices_count hw)))
  have X8_b := (Exa.wr W8 E)
  have V8_ka := (VA.other W8 ne_ka_b)
  have V8_ha := (VH.other W8 ne_ha_b)
  have V8_sa := (VS.other W8 ne_sa_b)
  have P8 := (P0.wr W8 (Or.inl (List.mem_of_getElem? (i := 0) rfl)))
  have F8_count_b := Fld.same W8 F_count
  refine callPriv K (y := (⟨"com/example/sightline/sightline/checker/ByActivity", "place", "(II)V"⟩ : MethodName)) (b := b) (argsL := [(.int (Int32.ofNat ch)), (.int (Int32.ofNat n))]) (S := []) (wd43 hw) (wd44 hw) (wd45 hw) (wd2 hw) (wd3 hw) (wd46 hw) (by decide) X8_b (c_place l Z a0 hw [] b ha sa ch n Hl Sl h8 n0 (Nat.le_trans Z0 P8.1) (by omega) (by omega) (by omega) (by omega) F8_heap_b F8_slot_b V8_ha V8_sa ne_sa_ha ne_ha_b ne_sa_b ge_ha ge_sa) (lenOf pd0 rfl) d_prog_2_method_6_13 rfl (Nat.le_of_ble_eq_true rfl) (Nat.le_of_ble_eq_true rfl) (Nat.le_of_ble_eq_true rfl) (Nat.le_of_ble_eq_true rfl) rfl (pc' := 16) rfl ?_
  rintro v9 h9 ⟨rfl, K9, Q9_VH, Q9_VS⟩
  have F9_activity_b := (Fld.keep F8_activity_b K9 (ninS (Ne.symm ne_ha_b) (ninS (Ne.symm ne_sa_b) (nin0))))
  have F9_heap_b := (Fld.keep F8_heap_b K9 (ninS (Ne.symm ne_ha_b) (ninS (Ne.symm ne_sa_b) (nin0))))
  have F9_slot_b := (Fld.keep F8_slot_b K9 (ninS (Ne.symm ne_ha_b) (ninS (Ne.symm ne_sa_b) (nin0))))
  have F9_count_b := (Fld.keep F8_count_b K9 (ninS (Ne.symm ne_ha_b) (ninS (Ne.symm ne_sa_b) (nin0))))
  have F9_gain_b := (Fld.keep F8_gain_b K9 (ninS (Ne.symm ne_ha_b) (ninS (Ne.symm ne_sa_b) (nin0))))
  have F9_choices_b := (Fld.keep F8_choices_b K9 (ninS (Ne.symm ne_ha_b) (ninS (Ne.symm ne_sa_b) (nin0))))
  have X9_b := (Exa.keep X8_b K9)
  have V9_ka := (V8_ka.keep K9 (ninS (Ne.symm ne_ha_ka) (ninS (Ne.symm ne_sa_ka) (nin0))))
  have P9 := (P8.trans K9 (allS (Or.inl (List.mem_of_getElem? (i := 1) rfl)) (allS (Or.inl (List.mem_of_getElem? (i := 2) rfl)) (all0))))
  show Go _ _ _ _ _ _ _ _ _ _ _ h9 0 0 (mkF m 16 #[.val (.ref b), .val (.int (Int32.ofNat ch))] []) _
  refine Jvm.OwnWp.aloadN K d_prog_2_method_6_16 rfl rfl (pc' := 17) rfl ?_
  refine Jvm.OwnWp.aloadN K d_prog_2_method_6_17 rfl rfl (pc' := 18) rfl ?_
  refine Jvm.OwnWp.getf K (wd41 hw) Via.refl F9_count_b d_prog_2_method_6_18 (pc' := 21) rfl ?_
  refine Jvm.OwnWp.iconst K (1 : Int32) d_prog_2_method_6_21 (by decide) (pc' := 22) rfl ?_
  refine Jvm.OwnWp.isub K d_prog_2_method_6_22 (pc' := 23) rfl ?_
  rw [show (Int32.ofNat (n + 1)) - (1 : Int32) = Int32.ofNat n from o_sub1 (n := n + 1) (by omega) (by omega)]
  refine callPriv K (y := (⟨"com/example/sightline/sightline/checker/ByActivity", "up", "(I)V"⟩ : MethodName)) (b := b) (argsL := [(.int (Int32.ofNat n))]) (S := []) (wd47 hw) (wd48 hw) (wd49 hw) (wd2 hw) (wd3 hw) (wd50 hw) (by decide) X9_b (c_up l Z a0 hw [] b ka ha sa N n Al (Hl.set n ch) (Sl.set ch (Int32.ofNat n)) h9 n0 (Nat.le_trans Z0 P9.1) hA (by rw [List.length_set]; exact hH) (by rw [List.length_set]; exact hS) N0 N9 (hB.set n hc) hn X9_b F9_activity_b F9_heap_b F9_slot_b V9_ka Q9_VH Q9_VS ne_sa_ha ne_ha_ka ne_sa_ka ne_ha_b ne_sa_b ge_ha ge_sa) (lenOf pd1 rfl) d_prog_2_method_6_23 rfl (Nat.le_of_ble_eq_true rfl) (Nat.le_of_ble_eq_true rfl) (Nat.le_of_ble_eq_true rfl) (Nat.le_of_ble_eq_true rfl) rfl (pc' := 26) rfl ?_
  rintro v10 h10 ⟨rfl, K10, Q10_VH, Q10_VS⟩
  have F10_activity_b := (Fld.keep F9_activity_b K10 (ninS (Ne.symm ne_ha_b) (ninS (Ne.symm ne_sa_b) (nin0))))
  have F10_heap_b := (Fld.keep F9_heap_b K10 (ninS (Ne.symm ne_ha_b) (ninS (Ne.symm ne_sa_b) (nin0))))
  have F10_slot_b := (Fld.keep F9_slot_b K10 (ninS (Ne.symm ne_ha_b) (ninS (Ne.symm ne_sa_b) (nin0))))
  have F10_count_b := (Fld.keep F9_count_b K10 (ninS (Ne.symm ne_ha_b) (ninS (Ne.symm ne_sa_b) (nin0))))
  have F10_gain_b := (Fld.keep F9_gain_b K10 (ninS (Ne.symm ne_ha_b) (ninS (Ne.symm ne_sa_b) (nin0))))
  have F10_choices_b := (Fld.keep F9_choices_b K10 (ninS (Ne.symm ne_ha_b) (ninS (Ne.symm ne_sa_b) (nin0))))
  have X10_b := (Exa.keep X9_b K10)
  have V10_ka := (V9_ka.keep K10 (ninS (Ne.symm ne_ha_ka) (ninS (Ne.symm ne_sa_ka) (nin0))))
  have P10 := (P9.trans K10 (allS (Or.inl (List.mem_of_getElem? (i := 1) rfl)) (allS (Or.inl (List.mem_of_getElem? (i := 2) rfl)) (all0))))
  show Go _ _ _ _ _ _ _ _ _ _ _ h10 0 0 (mkF m 26 #[.val (.ref b), .val (.int (Int32.ofNat ch))] []) _
  have er : upB Al ((Hl.set n ch).getD n 0) (Hl.set n ch) (Sl.set ch (Int32.ofNat n)) n = pushB Al ch Hl Sl n := by
    unfold pushB; congr 1; rw [List.getD_eq_getElem?_getD, List.getElem?_set, if_pos rfl, if_pos (by omega)]; rfl
  rw [er] at Q10_VH Q10_VS
  refine retV K rfl d_prog_2_method_6_26 (Nat.le_of_ble_eq_true rfl) (Nat.le_of_ble_eq_true rfl) ?_
  exact ⟨rfl, P10, X10_b, F10_activity_b, F10_heap_b, F10_slot_b, F10_count_b, F10_gain_b, F10_choices_b, V10_ka, Q10_VH, Q10_VS⟩
set_option maxRecDepth 65536 in
set_option maxHeartbeats 40000000 in
theorem c_down (l : Launch) (Z : State) (a0 : Array Value) (hw : ∀ d ∈ tables_1, d.before a0 Z = true) (ws : List Jvm.Cond) (b ka ha sa : Addr) (N n i : Nat) (Al : List UInt64) (Hl : List Nat) (Sl : List Int32) (h0 : Heap) (n0 : Nat) (Z0 : n0 ≤ h0.size) (hA : Al.length = N) (hH : Hl.length = N) (hS : Sl.length = N) (N0 : 0 < N) (N9 : N < 100) (hB : Bd N Hl) (hiN : i < N) (hnN : n ≤ N) (E : Exa Z h0 b "com/example/sightline/sightline/checker/ByActivity") (F_act : Fld Z h0 b "com/example/sightline/sightline/checker/ByActivity" "activity" "[D" (.ref ka)) (F_heap : Fld Z h0 b "com/example/sightline/sightline/checker/ByActivity" "heap" "[I" (.ref ha)) (F_slot : Fld Z h0 b "com/example/sightline/sightline/checker/ByActivity" "slot" "[I" (.ref sa)) (VA : DV Z h0 ka Al) (VH : HV Z h0 ha Hl) (VS : IV Z h0 sa Sl) (F_count : Fld Z h0 b "com/example/sightline/sightline/checker/ByActivity" "count" "I" (.int (Int32.ofNat n))) (ne_sa_ha : sa ≠ ha) (ne_ha_ka : ha ≠ ka) (ne_sa_ka : sa ≠ ka) (ne_ha_b : ha ≠ b) (ne_sa_b : sa ≠ b) (ge_ha : n0 ≤ ha) (ge_sa : n0 ≤ sa) :
    Ctr l Z (⟨"com/example/sightline/sightline/checker/ByActivity", "down", "(I)V"⟩ : MethodName) prog_2_method_9_code 4 none ws ({ frames := 1, cells := 0, slots := 0, locals := 14 } : Room) n0 #[(.ref b), (.int (Int32.ofNat i))] h0 (fun v h => v = none ∧ Keep h0 h [ha, sa] ∧ HV Z h ha (downB Al n (Hl.getD i 0) Hl Sl i).1 ∧ IV Z h sa (downB Al n (Hl.getD i 0) Hl Sl i).2) := by
  refine ctr (own := "com/example/sightline/sightline/checker/ByActivity") (nm := "down") rfl rfl (Ls := #[.val (.ref b), .val (.int (Int32.ofNat i)), .unset, .unset]) (plainFor_of_name pn0) (fun m => by first | (simp [entryFrame, mkF, argsToLocals, Value.category]; done) | rfl) ?_
  intro p e s m below meth c K eh
  have P0 := Keep.refl h0 [ha, sa]
  refine Jvm.OwnWp.aloadN K d_prog_2_method_9_0 rfl rfl (pc' := 1) rfl ?_
  refine Jvm.OwnWp.getf K (wd27 hw) Via.refl F_heap d_prog_2_method_9_1 (pc' := 4) rfl ?_
  refine Jvm.OwnWp.iloadN K d_prog_2_method_9_4 rfl (pc' := 5) rfl ?_
  refine iaload K (i := i) VH (o_int (by omega)) (mapAt (getDAt (d := 0) (by omega))) d_prog_2_method_9_5 (pc' := 6) rfl ?_
  refine Jvm.OwnWp.istoreN K d_prog_2_method_9_6 (Ls' := #[.val (.ref b), .val (.int (Int32.ofNat i)), .val (.int (Int32.ofNat (Hl.getD i 0))), .unset]) rfl (pc' := 7) rfl ?_
  have hcN := hB i
  generalize hcc : Hl.getD i 0 = ch at *
  have loop : ∀ (f j : Nat) (o3 : Slot) (H' : List Nat) (S' : List Int32) (hh : Heap), n - j ≤ f → One o3 → j < N → H'.length = N → S'.length = N → Bd N H' → downB Al n ch H' S' j = (downB Al n ch Hl Sl i) → Keep h0 hh [ha, sa] → Exa Z hh b "com/example/sightline/sightline/checker/ByActivity" → Fld Z hh b "com/example/sightline/sightline/checker/ByActivity" "activity" "[D" (.ref ka) → Fld Z hh b "com/example/sightline/sightline/checker/ByActivity" "heap" "[I" (.ref ha) → Fld Z hh b "com/example/sightline/sightline/checker/ByActivity" "slot" "[I" (.ref sa) → DV Z hh ka Al → HV Z hh ha H' → IV Z hh sa S' → Fld Z hh b "com/example/sightline/sightline/checker/ByActivity" "count" "I" (.int (Int32.ofNat n)) → Go p l e ({ frames := 1, cells := 0, slots := 0, locals := 14 } : Room) s m #[(.ref b), (.int (Int32.ofNat i))] below meth c n0 hh 0 0 (mkF m 7 #[.val (.ref b), .val (.int (Int32.ofNat j)), .val (.int (Int32.ofNat ch)), o3] []) (fun v h => v = none ∧ Keep h0 h [ha, sa] ∧ HV Z h ha (downB Al n ch Hl Sl i).1 ∧ IV Z h sa (downB Al n ch Hl Sl i).2) := by
    intro f
    induction f with
    | zero =>
      intro j o3 H' S' hh hf ho3 hj hH' hS' hB' hup LP LE LF_act LF_heap LF_slot LVA LVH LVS LF_count
      refine Jvm.OwnWp.iconst K (2 : Int32) d_prog_2_method_9_7 (by decide) (pc' := 8) rfl ?_
      refine Jvm.OwnWp.iloadN K d_prog_2_method_9_8 rfl (pc' := 9) rfl ?_
      refine Jvm.OwnWp.imul K d_prog_2_method_9_9 (pc' := 10) rfl ?_
      refine Jvm.OwnWp.iconst K (1 : Int32) d_prog_2_method_9_10 (by decide) (pc' := 11) rfl ?_
      refine Jvm.OwnWp.iadd K d_prog_2_method_9_11 (pc' := 12) rfl ?_
      rw [show ((2 : Int32) * (Int32.ofNat j)) + (1 : Int32) = Int32.ofNat (2 * j + 1) from o_kid1 (by omega)]
      refine Jvm.OwnWp.aloadN K d_prog_2_method_9_12 rfl rfl (pc' := 13) rfl ?_
      refine Jvm.OwnWp.getf K (wd41 hw) Via.refl LF_count d_prog_2_method_9_13 (pc' := 16) rfl ?_
      refine icY K d_prog_2_method_9_16 (XT.ii_ge_t (fun q => absurd ((o_lt (by omega) (by omega)).mp q) (by omega))) (pc' := 106) (by decide) (by decide) ?_
      have e := hup.symm.trans (downB_end (by omega))
      refine Jvm.OwnWp.aloadN K d_prog_2_method_9_106 rfl rfl (pc' := 107) rfl ?_
      refine Jvm.OwnWp.iloadN K d_prog_2_method_9_107 rfl (pc' := 108) rfl ?_
      refine Jvm.OwnWp.iloadN K d_prog_2_method_9_108 rfl (pc' := 109) rfl ?_
      refine callPriv K (y := (⟨"com/example/sightline/sightline/checker/ByActivity", "place", "(II)V"⟩ : MethodName)) (b := b) (argsL := [(.int (Int32.ofNat ch)), (.int (Int32.ofNat j))]) (S := []) (wd43 hw) (wd44 hw) (wd45 hw) (wd2 hw) (wd3 hw) (wd46 hw) (by decide) LE (c_place l Z a0 hw [] b ha sa ch j H' S' hh n0 (Nat.le_trans Z0 LP.1) (by omega) (by omega) (by omega) (by omega) LF_heap LF_slot LVH LVS ne_sa_ha ne_ha_b ne_sa_b ge_ha ge_sa) (lenOf pd0 rfl) d_prog_2_method_9_109 rfl (Nat.le_of_ble_eq_true rfl) (Nat.le_of_ble_eq_true rfl) (Nat.le_of_ble_eq_true rfl) (Nat.le_of_ble_eq_true rfl) rfl (pc' := 112) rfl ?_
      rintro v11 h11 ⟨rfl, K11, Q11_VH, Q11_VS⟩
      have F11_activity_b := (Fld.keep LF_act K11 (ninS (Ne.symm ne_ha_b) (ninS (Ne.symm ne_sa_b) (nin0))))
      have F11_heap_b := (Fld.keep LF_heap K11 (ninS (Ne.symm ne_ha_b) (ninS (Ne.symm ne_sa_b) (nin0))))
      have F11_slot_b := (Fld.keep LF_slot K11 (ninS (Ne.symm ne_ha_b) (ninS (Ne.symm ne_sa_b) (nin0))))
      have F11_count_b := (Fld.keep LF_count K11 (ninS (Ne.symm ne_ha_b) (ninS (Ne.symm ne_sa_b) (nin0))))
      have X11_b := (Exa.keep LE K11)
      have V11_ka := (LVA.keep K11 (ninS (Ne.symm ne_ha_ka) (ninS (Ne.symm ne_sa_ka) (nin0))))
      have P11 := (LP.trans K11 (allS (Or.inl (List.mem_of_getElem? (i := 0) rfl)) (allS (Or.inl (List.mem_of_getElem? (i := 1) rfl)) (all0))))
      show Go _ _ _ _ _ _ _ _ _ _ _ h11 0 0 (mkF m 112 #[.val (.ref b), .val (.int (Int32.ofNat j)), .val (.int (Int32.ofNat ch)), o3] []) _
      refine retV K rfl d_prog_2_method_9_112 (Nat.le_of_ble_eq_true rfl) (Nat.le_of_ble_eq_true rfl) ?_
      rw [e]
      exact ⟨rfl, P11, Q11_VH, Q11_VS⟩
    | succ f ih =>
      intro j o3 H' S' hh hf ho3 hj hH' hS' hB' hup LP LE LF_act LF_heap LF_slot LVA LVH LVS LF_count
      refine Jvm.OwnWp.iconst K (2 : Int32) d_prog_2_method_9_7 (by decide) (pc' := 8) rfl ?_
      refine Jvm.OwnWp.iloadN K d_prog_2_method_9_8 rfl (pc' := 9) rfl ?_
      refine Jvm.OwnWp.imul K d_prog_2_method_9_9 (pc' := 10) rfl ?_
      refine Jvm.OwnWp.iconst K (1 : Int32) d_prog_2_method_9_10 (by decide) (pc' := 11) rfl ?_
      refine Jvm.OwnWp.iadd K d_prog_2_method_9_11 (pc' := 12) rfl ?_
      rw [show ((2 : Int32) * (Int32.ofNat j)) + (1 : Int32) = Int32.ofNat (2 * j + 1) from o_kid1 (by omega)]
      refine Jvm.OwnWp.aloadN K d_prog_2_method_9_12 rfl rfl (pc' := 13) rfl ?_
      refine Jvm.OwnWp.getf K (wd41 hw) Via.refl LF_count d_prog_2_method_9_13 (pc' := 16) rfl ?_
      by_cases c1 : (Int32.ofNat (2 * j + 1)) < (Int32.ofNat n)
      · refine icN K d_prog_2_method_9_16 (XT.ii_ge_f c1) (pc' := 19) rfl ?_
        have j1 := (o_lt (by omega : 2 * j + 1 < 1000) (by omega : n < 1000)).mp c1
        refine Jvm.OwnWp.iconst K (2 : Int32) d_prog_2_method_9_19 (by decide) (pc' := 20) rfl ?_
        refine Jvm.OwnWp.iloadN K d_prog_2_method_9_20 rfl (pc' := 21) rfl ?_
        refine Jvm.OwnWp.imul K d_prog_2_method_9_21 (pc' := 22) rfl ?_
        refine Jvm.OwnWp.iconst K (1 : Int32) d_prog_2_method_9_22 (by decide) (pc' := 23) rfl ?_
        refine Jvm.OwnWp.iadd K d_prog_2_method_9_23 (pc' := 24) rfl ?_
        rw [show ((2 : Int32) * (Int32.ofNat j)) + (1 : Int32) = Int32.ofNat (2 * j + 1) from o_kid1 (by omega)]
        refine Jvm.OwnWp.istoreNS K d_prog_2_method_9_24 rfl ho3 (Ls' := #[.val (.ref b), .val (.int (Int32.ofNat j)), .val (.int (Int32.ofNat ch)), .val (.int (Int32.ofNat (2 * j + 1)))]) rfl (pc' := 25) rfl ?_
        refine Jvm.OwnWp.iloadN K d_prog_2_method_9_25 rfl (pc' := 26) rfl ?_
        refine Jvm.OwnWp.iconst K (1 : Int32) d_prog_2_method_9_26 (by decide) (pc' := 27) rfl ?_
        refine Jvm.OwnWp.iadd K d_prog_2_method_9_27 (pc' := 28) rfl ?_
        rw [show (Int32.ofNat (2 * j + 1)) + (1 : Int32) = Int32.ofNat (2 * j + 2) from o_add1 (n := 2 * j + 1) (by omega)]
        refine Jvm.OwnWp.aloadN K d_prog_2_method_9_28 rfl rfl (pc' := 29) rfl ?_
        refine Jvm.OwnWp.getf K (wd41 hw) Via.refl LF_count d_prog_2_method_9_29 (pc' := 32) rfl ?_
        have join : Go p l e ({ frames := 1, cells := 0, slots := 0, locals := 14 } : Room) s m #[(.ref b), (.int (Int32.ofNat i))] below meth c n0 hh 0 0 (mkF m 66 #[.val (.ref b), .val (.int (Int32.ofNat j)), .val (.int (Int32.ofNat ch)), .val (.int (Int32.ofNat (kidB Al n H' j)))] []) (fun v h => v = none ∧ Keep h0 h [ha, sa] ∧ HV Z h ha (downB Al n ch Hl Sl i).1 ∧ IV Z h sa (downB Al n ch Hl Sl i).2) := by
          have hkb := kidB_bd Al n H' j
          have hkN : kidB Al n H' j < N := by omega
          have hk2 := hB' (kidB Al n H' j)
          refine Jvm.OwnWp.aloadN K d_prog_2_method_9_66 rfl rfl (pc' := 67) rfl ?_
          refine Jvm.OwnWp.getf K (wd23 hw) Via.refl LF_act d_prog_2_method_9_67 (pc' := 70) rfl ?_
          refine Jvm.OwnWp.aloadN K d_prog_2_method_9_70 rfl rfl (pc' := 71) rfl ?_
          refine Jvm.OwnWp.getf K (wd27 hw) Via.refl LF_heap d_prog_2_method_9_71 (pc' := 74) rfl ?_
          refine Jvm.OwnWp.iloadN K d_prog_2_method_9_74 rfl (pc' := 75) rfl ?_
          refine iaload K (i := (kidB Al n H' j)) LVH (o_int (by omega)) (mapAt (getDAt (d := 0) (by omega))) d_prog_2_method_9_75 (pc' := 76) rfl ?_
          refine daload K (i := (H'.getD (kidB Al n H' j) 0)) LVA (o_int (by omega)) (mapAt (getDAt (d := 0) (by omega))) d_prog_2_method_9_76 (pc' := 77) rfl ?_
          refine Jvm.OwnWp.aloadN K d_prog_2_method_9_77 rfl rfl (pc' := 78) rfl ?_
          refine Jvm.OwnWp.getf K (wd23 hw) Via.refl LF_act d_prog_2_method_9_78 (pc' := 81) rfl ?_
          refine Jvm.OwnWp.iloadN K d_prog_2_method_9_81 rfl (pc' := 82) rfl ?_
          refine daload K (i := ch) LVA (o_int (by omega)) (mapAt (getDAt (d := 0) (by omega))) d_prog_2_method_9_82 (pc' := 83) rfl ?_
          refine Jvm.OwnWp.dcmp K d_prog_2_method_9_83 (pc' := 84) rfl ?_
          by_cases c2 : Jvm.OwnWp.dle (FP.dcmp (Al.getD (H'.getD (kidB Al n H' j) 0) 0) (Al.getD ch 0))
          · refine ifN K d_prog_2_method_9_84 (dd_g_gt_f c2) (pc' := 87) rfl ?_
            refine goto' K d_prog_2_method_9_87 (pc' := 106) (by decide) (by decide) ?_
            have e := hup.symm.trans (downB_stop j1 c2)
            refine Jvm.OwnWp.aloadN K d_prog_2_method_9_106 rfl rfl (pc' := 107) rfl ?_
            refine Jvm.OwnWp.iloadN K d_prog_2_method_9_107 rfl (pc' := 108) rfl ?_
            refine Jvm.OwnWp.iloadN K d_prog_2_method_9_108 rfl (pc' := 109) rfl ?_
            refine callPriv K (y := (⟨"com/example/sightline/sightline/checker/ByActivity", "place", "(II)V"⟩ : MethodName)) (b := b) (argsL := [(.int (Int32.ofNat ch)), (.int (Int32.ofNat j))]) (S := []) (wd43 hw) (wd44 hw) (wd45 hw) (wd2 hw) (wd3 hw) (wd46 hw) (by decide) LE (c_place l Z a0 hw [] b ha sa ch j H' S' hh n0 (Nat.le_trans Z0 LP.1) (by omega) (by omega) (by omega) (by omega) LF_heap LF_slot LVH LVS ne_sa_ha ne_ha_b ne_sa_b ge_ha ge_sa) (lenOf pd0 rfl) d_prog_2_method_9_109 rfl (Nat.le_of_ble_eq_true rfl) (Nat.le_of_ble_eq_true rfl) (Nat.le_of_ble_eq_true rfl) (Nat.le_of_ble_eq_true rfl) rfl (pc' := 112) rfl ?_
            rintro v12 h12 ⟨rfl, K12, Q12_VH, Q12_VS⟩
            have F12_activity_b := (Fld.keep LF_act K12 (ninS (Ne.symm ne_ha_b) (ninS (Ne.symm ne_sa_b) (nin0))))
            have F12_heap_b := (Fld.keep LF_heap K12 (ninS (Ne.symm ne_ha_b) (ninS (Ne.symm ne_sa_b) (nin0))))
            have F12_slot_b := (Fld.keep LF_slot K12 (ninS (Ne.symm ne_ha_b) (ninS (Ne.symm ne_sa_b) (nin0))))
            have F12_count_b := (Fld.keep LF_count K12 (ninS (Ne.symm ne_ha_b) (ninS (Ne.symm ne_sa_b) (nin0))))
            have X12_b := (Exa.keep LE K12)
            have V12_ka := (LVA.keep K12 (ninS (Ne.symm ne_ha_ka) (ninS (Ne.symm ne_sa_ka) (nin0))))
            have P12 := (LP.trans K12 (allS (Or.inl (List.mem_of_getElem? (i := 0) rfl)) (allS (Or.inl (List.mem_of_getElem? (i := 1) rfl)) (all0))))
            show Go _ _ _ _ _ _ _ _ _ _ _ h12 0 0 (mkF m 112 #[.val (.ref b), .val (.int (Int32.ofNat j)), .val (.int (Int32.ofNat ch)), .val (.int (Int32.ofNat (kidB Al n H' j)))] []) _
            refine retV K rfl d_prog_2_method_9_112 (Nat.le_of_ble_eq_true rfl) (Nat.le_of_ble_eq_true rfl) ?_
            rw [e]
            exact ⟨rfl, P12, Q12_VH, Q12_VS⟩
          · refine ifY K d_prog_2_method_9_84 (dd_g_gt_t c2) (pc' := 90) (by decide) (by decide) ?_
            refine Jvm.OwnWp.aloadN K d_prog_2_method_9_90 rfl rfl (pc' := 91) rfl ?_
            refine Jvm.OwnWp.aloadN K d_prog_2_method_9_91 rfl rfl (pc' := 92) rfl ?_
            refine Jvm.OwnWp.getf K (wd27 hw) Via.refl LF_heap d_prog_2_method_9_92 (pc' := 95) rfl ?_
            refine Jvm.OwnWp.iloadN K d_prog_2_method_9_95 rfl (pc' := 96) rfl ?_
            refine iaload K (i := (kidB Al n H' j)) LVH (o_int (by omega)) (mapAt (getDAt (d := 0) (by omega))) d_prog_2_method_9_96 (pc' := 97) rfl ?_
            refine Jvm.OwnWp.iloadN K d_prog_2_method_9_97 rfl (pc' := 98) rfl ?_
            refine callPriv K (y := (⟨"com/example/sightline/sightline/checker/ByActivity", "place", "(II)V"⟩ : MethodName)) (b := b) (argsL := [(.int (Int32.ofNat (H'.getD (kidB Al n H' j) 0))), (.int (Int32.ofNat j))]) (S := []) (wd43 hw) (wd44 hw) (wd45 hw) (wd2 hw) (wd3 hw) (wd46 hw) (by decide) LE (c_place l Z a0 hw [] b ha sa (H'.getD (kidB Al n H' j) 0) j H' S' hh n0 (Nat.le_trans Z0 LP.1) (by omega) (by omega) (by omega) (by omega) LF_heap LF_slot LVH LVS ne_sa_ha ne_ha_b ne_sa_b ge_ha ge_sa) (lenOf pd0 rfl) d_prog_2_method_9_98 rfl (Nat.le_of_ble_eq_true rfl) (Nat.le_of_ble_eq_true rfl) (Nat.le_of_ble_eq_true rfl) (Nat.le_of_ble_eq_true rfl) rfl (pc' := 101) rfl ?_
            rintro v13 h13 ⟨rfl, K13, Q13_VH, Q13_VS⟩
            have F13_activity_b := (Fld.keep LF_act K13 (ninS (Ne.symm ne_ha_b) (ninS (Ne.symm ne_sa_b) (nin0))))
            have F13_heap_b := (Fld.keep LF_heap K13 (ninS (Ne.symm ne_ha_b) (ninS (Ne.symm ne_sa_b) (nin0))))
            have F13_slot_b := (Fld.keep LF_slot K13 (ninS (Ne.symm ne_ha_b) (ninS (Ne.symm ne_sa_b) (nin0))))
            have F13_count_b := (Fld.keep LF_count K13 (ninS (Ne.symm ne_ha_b) (ninS (Ne.symm ne_sa_b) (nin0))))
            have X13_b := (Exa.keep LE K13)
            have V13_ka := (LVA.keep K13 (ninS (Ne.symm ne_ha_ka) (ninS (Ne.symm ne_sa_ka) (nin0))))
            have P13 := (LP.trans K13 (allS (Or.inl (List.mem_of_getElem? (i := 0) rfl)) (allS (Or.inl (List.mem_of_getElem? (i := 1) rfl)) (all0))))
            show Go _ _ _ _ _ _ _ _ _ _ _ h13 0 0 (mkF m 101 #[.val (.ref b), .val (.int (Int32.ofNat j)), .val (.int (Int32.ofNat ch)), .val (.int (Int32.ofNat (kidB Al n H' j)))] []) _
            refine Jvm.OwnWp.iloadN K d_prog_2_method_9_101 rfl (pc' := 102) rfl ?_
            refine Jvm.OwnWp.istoreN K d_prog_2_method_9_102 (Ls' := #[.val (.ref b), .val (.int (Int32.ofNat (kidB Al n H' j))), .val (.int (Int32.ofNat ch)), .val (.int (Int32.ofNat (kidB Al n H' j)))]) rfl (pc' := 103) rfl ?_
            refine goto' K d_prog_2_method_9_103 (pc' := 7) (by decide) (by decide) ?_
            exact ih _ _ _ _ _ (by omega) (One.val rfl) hkN (by rw [List.length_set]; exact hH') (by rw [List.length_set]; exact hS') (hB'.set j hk2) ((downB_go j1 c2).symm.trans hup) P13 X13_b F13_activity_b F13_heap_b F13_slot_b V13_ka Q13_VH Q13_VS F13_count_b
        by_cases c3 : (Int32.ofNat (2 * j + 2)) < (Int32.ofNat n)
        · refine icN K d_prog_2_method_9_32 (XT.ii_ge_f c3) (pc' := 35) rfl ?_
          have j2 := (o_lt (by omega : 2 * j + 2 < 1000) (by omega : n < 1000)).mp c3
          have hq1 := hB' (2 * j + 1)
          have hq2 := hB' (2 * j + 2)
          refine Jvm.OwnWp.aloadN K d_prog_2_method_9_35 rfl rfl (pc' := 36) rfl ?_
          refine Jvm.OwnWp.getf K (wd23 hw) Via.refl LF_act d_prog_2_method_9_36 (pc' := 39) rfl ?_
          refine Jvm.OwnWp.aloadN K d_prog_2_method_9_39 rfl rfl (pc' := 40) rfl ?_
          refine Jvm.OwnWp.getf K (wd27 hw) Via.refl LF_heap d_prog_2_method_9_40 (pc' := 43) rfl ?_
          refine Jvm.OwnWp.iloadN K d_prog_2_method_9_43 rfl (pc' := 44) rfl ?_
          refine Jvm.OwnWp.iconst K (1 : Int32) d_prog_2_method_9_44 (by decide) (pc' := 45) rfl ?_
          refine Jvm.OwnWp.iadd K d_prog_2_method_9_45 (pc' := 46) rfl ?_
          rw [show (Int32.ofNat (2 * j + 1)) + (1 : Int32) = Int32.ofNat (2 * j + 2) from o_add1 (n := 2 * j + 1) (by omega)]
          refine iaload K (i := (2 * j + 2)) LVH (o_int (by omega)) (mapAt (getDAt (d := 0) (by omega))) d_prog_2_method_9_46 (pc' := 47) rfl ?_
          refine daload K (i := (H'.getD (2 * j + 2) 0)) LVA (o_int (by omega)) (mapAt (getDAt (d := 0) (by omega))) d_prog_2_method_9_47 (pc' := 48) rfl ?_
          refine Jvm.OwnWp.aloadN K d_prog_2_method_9_48 rfl rfl (pc' := 49) rfl ?_
          refine Jvm.OwnWp.getf K (wd23 hw) Via.refl LF_act d_prog_2_method_9_49 (pc' := 52) rfl ?_
          refine Jvm.OwnWp.aloadN K d_prog_2_method_9_52 rfl rfl (pc' := 53) rfl ?_
          refine Jvm.OwnWp.getf K (wd27 hw) Via.refl LF_heap d_prog_2_method_9_53 (pc' := 56) rfl ?_
          refine Jvm.OwnWp.iloadN K d_prog_2_method_9_56 rfl (pc' := 57) rfl ?_
          refine iaload K (i := (2 * j + 1)) LVH (o_int (by omega)) (mapAt (getDAt (d := 0) (by omega))) d_prog_2_method_9_57 (pc' := 58) rfl ?_
          refine daload K (i := (H'.getD (2 * j + 1) 0)) LVA (o_int (by omega)) (mapAt (getDAt (d := 0) (by omega))) d_prog_2_method_9_58 (pc' := 59) rfl ?_
          refine Jvm.OwnWp.dcmp K d_prog_2_method_9_59 (pc' := 60) rfl ?_
          by_cases c4 : FP.dcmp (Al.getD (H'.getD (2 * j + 2) 0) 0) (Al.getD (H'.getD (2 * j + 1) 0) 0) = some .gt
          · refine ifN K d_prog_2_method_9_60 (dd_l_le_f c4) (pc' := 63) rfl ?_
            refine Jvm.OwnWp.iinc K (1 : Int32) d_prog_2_method_9_63 (by decide) rfl (Ls' := #[.val (.ref b), .val (.int (Int32.ofNat j)), .val (.int (Int32.ofNat ch)), .val (.int ((Int32.ofNat (2 * j + 1)) + (1 : Int32)))]) rfl (pc' := 66) rfl ?_
            rw [show (Int32.ofNat (2 * j + 1)) + (1 : Int32) = Int32.ofNat (2 * j + 2) from o_add1 (n := 2 * j + 1) (by omega)]
            rw [show kidB Al n H' j = 2 * j + 2 by unfold kidB; rw [if_pos ⟨j2, c4⟩]] at join
            exact join
          · refine ifY K d_prog_2_method_9_60 (dd_l_le_t c4) (pc' := 66) (by decide) (by decide) ?_
            rw [show kidB Al n H' j = 2 * j + 1 by unfold kidB; rw [if_neg (fun q => c4 q.2)]] at join
            exact join
        · refine icY K d_prog_2_method_9_32 (XT.ii_ge_t c3) (pc' := 66) (by decide) (by decide) ?_
          rw [show kidB Al n H' j = 2 * j + 1 by unfold kidB; rw [if_neg (fun q => c3 ((o_lt (by omega) (by omega)).mpr q.1))]] at join
          exact join
      · refine icY K d_prog_2_method_9_16 (XT.ii_ge_t c1) (pc' := 106) (by decide) (by decide) ?_
        have e := hup.symm.trans (downB_end (fun q => c1 ((o_lt (by omega) (by omega)).mpr q)))
        refine Jvm.OwnWp.aloadN K d_prog_2_method_9_106 rfl rfl (pc' := 107) rfl ?_
        refine Jvm.OwnWp.iloadN K d_prog_2_method_9_107 rfl (pc' := 108) rfl ?_
        refine Jvm.OwnWp.iloadN K d_prog_2_method_9_108 rfl (pc' := 109) rfl ?_
        refine callPriv K (y := (⟨"com/example/sightline/sightline/checker/ByActivity", "place", "(II)V"⟩ : MethodName)) (b := b) (argsL := [(.int (Int32.ofNat ch)), (.int (Int32.ofNat j))]) (S := []) (wd43 hw) (wd44 hw) (wd45 hw) (wd2 hw) (wd3 hw) (wd46 hw) (by decide) LE (c_place l Z a0 hw [] b ha sa ch j H' S' hh n0 (Nat.le_trans Z0 LP.1) (by omega) (by omega) (by omega) (by omega) LF_heap LF_slot LVH LVS ne_sa_ha ne_ha_b ne_sa_b ge_ha ge_sa) (lenOf pd0 rfl) d_prog_2_method_9_109 rfl (Nat.le_of_ble_eq_true rfl) (Nat.le_of_ble_eq_true rfl) (Nat.le_of_ble_eq_true rfl) (Nat.le_of_ble_eq_true rfl) rfl (pc' := 112) rfl ?_
        rintro v14 h14 ⟨rfl, K14, Q14_VH, Q14_VS⟩
        have F14_activity_b := (Fld.keep LF_act K14 (ninS (Ne.symm ne_ha_b) (ninS (Ne.symm ne_sa_b) (nin0))))
        have F14_heap_b := (Fld.keep LF_heap K14 (ninS (Ne.symm ne_ha_b) (ninS (Ne.symm ne_sa_b) (nin0))))
        have F14_slot_b := (Fld.keep LF_slot K14 (ninS (Ne.symm ne_ha_b) (ninS (Ne.symm ne_sa_b) (nin0))))
        have F14_count_b := (Fld.keep LF_count K14 (ninS (Ne.symm ne_ha_b) (ninS (Ne.symm ne_sa_b) (nin0))))
        have X14_b := (Exa.keep LE K14)
        have V14_ka := (LVA.keep K14 (ninS (Ne.symm ne_ha_ka) (ninS (Ne.symm ne_sa_ka) (nin0))))
        have P14 := (LP.trans K14 (allS (Or.inl (List.mem_of_getElem? (i := 0) rfl)) (allS (Or.inl (List.mem_of_getElem? (i := 1) rfl)) (all0))))
        show Go _ _ _ _ _ _ _ _ _ _ _ h14 0 0 (mkF m 112 #[.val (.ref b), .val (.int (Int32.ofNat j)), .val (.int (Int32.ofNat ch)), o3] []) _
        refine retV K rfl d_prog_2_method_9_112 (Nat.le_of_ble_eq_true rfl) (Nat.le_of_ble_eq_true rfl) ?_
        rw [e]
        exact ⟨rfl, P14, Q14_VH, Q14_VS⟩
  exact loop _ i .unset Hl Sl _ (Nat.le_refl _) One.u hiN hH hS hB rfl P0 E F_act F_heap F_slot VA VH VS F_count
set_option maxRecDepth 65536 in
set_option maxHeartbeats 40000000 in
theorem c_pop (l : Launch) (Z : State) (a0 : Array Value) (hw : ∀ d ∈ tables_1, d.before a0 Z = true) (ws : List Jvm.Cond) (b ka ha sa : Addr) (N n : Nat) (g : UInt64) (Al : List UInt64) (Hl : List Nat) (Sl : List Int32) (h0 : Heap) (n0 : Nat) (Z0 : n0 ≤ h0.size) (hA : Al.length = N) (hH : Hl.length = N) (hS : Sl.length = N) (N0 : 0 < N) (N9 : N < 100) (hB : Bd N Hl) (n0' : 0 < n) (hnN : n ≤ N) (E : Exa Z h0 b "com/example/sightline/sightline/checker/ByActivity") (F_act : Fld Z h0 b "com/example/sightline/sightline/checker/ByActivity" "activity" "[D" (.ref ka)) (F_heap : Fld Z h0 b "com/example/sightline/sightline/checker/ByActivity" "heap" "[I" (.ref ha)) (F_slot : Fld Z h0 b "com/example/sightline/sightline/checker/ByActivity" "slot" "[I" (.ref sa)) (F_count : Fld Z h0 b "com/example/sightline/sightline/checker/ByActivity" "count" "I" (.int (Int32.ofNat n))) (F_gain : Fld Z h0 b "com/example/sightline/sightline/checker/ByActivity" "gain" "D" (.double g)) (F_choices : Fld Z h0 b "com/example/sightline/sightline/checker/ByActivity" "choices" "I" (.int (Int32.ofNat N))) (VA : DV Z h0 ka Al) (VH : HV Z h0 ha Hl) (VS : IV Z h0 sa Sl) (ne_ka_b : ka ≠ b) (ne_ha_b : ha ≠ b) (ne_sa_b : sa ≠ b) (ne_ha_ka : ha ≠ ka) (ne_sa_ka : sa ≠ ka) (ne_sa_ha : sa ≠ ha) (ge_b : n0 ≤ b) (ge_ka : n0 ≤ ka) (ge_ha : n0 ≤ ha) (ge_sa : n0 ≤ sa) :
    Ctr l Z (⟨"com/example/sightline/sightline/checker/ByActivity", "pop", "()I"⟩ : MethodName) prog_2_method_5_code 2 (some .int) ws ({ frames := 2, cells := 0, slots := 0, locals := 29 } : Room) n0 #[(.ref b)] h0 (fun v h => v = some (.int (Int32.ofNat (Hl.getD 0 0))) ∧ Keep h0 h [b, ha, sa] ∧ Exa Z h b "com/example/sightline/sightline/checker/ByActivity" ∧ Fld Z h b "com/example/sightline/sightline/checker/ByActivity" "activity" "[D" (.ref ka) ∧ Fld Z h b "com/example/sightline/sightline/checker/ByActivity" "heap" "[I" (.ref ha) ∧ Fld Z h b "com/example/sightline/sightline/checker/ByActivity" "slot" "[I" (.ref sa) ∧ Fld Z h b "com/example/sightline/sightline/checker/ByActivity" "count" "I" (.int (Int32.ofNat (n - 1))) ∧ Fld Z h b "com/example/sightline/sightline/checker/ByActivity" "gain" "D" (.double g) ∧ Fld Z h b "com/example/sightline/sightline/checker/ByActivity" "choices" "I" (.int (Int32.ofNat N)) ∧ DV Z h ka Al ∧ HV Z h ha (popB Al Hl Sl n).1 ∧ IV Z h sa (popB Al Hl Sl n).2) := by
  refine ctr (own := "com/example/sightline/sightline/checker/ByActivity") (nm := "pop") rfl rfl (Ls := #[.val (.ref b), .unset]) (plainFor_of_name pn0) (fun m => by first | (simp [entryFrame, mkF, argsToLocals, Value.category]; done) | rfl) ?_
  intro p e s m below meth c K eh
  have P0 := Keep.refl h0 [b, ha, sa]
  have ht := hB 0
  have hl := hB (n - 1)
  refine Jvm.OwnWp.aloadN K d_prog_2_method_5_0 rfl rfl (pc' := 1) rfl ?_
  refine Jvm.OwnWp.getf K (wd27 hw) Via.refl F_heap d_prog_2_method_5_1 (pc' := 4) rfl ?_
  refine Jvm.OwnWp.iconst K (0 : Int32) d_prog_2_method_5_4 (by decide) (pc' := 5) rfl ?_
  refine iaload K (i := 0) VH (by decide) (mapAt (getDAt (d := 0) (by omega))) d_prog_2_method_5_5 (pc' := 6) rfl ?_
  refine Jvm.OwnWp.istoreN K d_prog_2_method_5_6 (Ls' := #[.val (.ref b), .val (.int (Int32.ofNat (Hl.getD 0 0)))]) rfl (pc' := 7) rfl ?_
  refine Jvm.OwnWp.aloadN K d_prog_2_method_5_7 rfl rfl (pc' := 8) rfl ?_
  refine Jvm.OwnWp.getf K (wd29 hw) Via.refl F_slot d_prog_2_method_5_8 (pc' := 11) rfl ?_
  refine Jvm.OwnWp.iloadN K d_prog_2_method_5_11 rfl (pc' := 12) rfl ?_
  refine Jvm.OwnWp.iconst K (-1 : Int32) d_prog_2_method_5_12 (by decide) (pc' := 13) rfl ?_
  refine iastore K (i := (Hl.getD 0 0)) VS (o_int (by omega)) (mapLt (by omega)) ge_sa d_prog_2_method_5_13 (pc' := 14) rfl ?_
  intro h15 W15
  have F15_activity_b := (Fld.other W15 F_act (Or.inl (Ne.symm ne_sa_b)))
  have F15_heap_b := (Fld.other W15 F_heap (Or.inl (Ne.symm ne_sa_b)))
  have F15_slot_b := (Fld.other W15 F_slot (Or.inl (Ne.symm ne_sa_b)))
  have F15_count_b := (Fld.other W15 F_count (Or.inl (Ne.symm ne_sa_b)))
  have F15_gain_b := (Fld.other W15 F_gain (Or.inl (Ne.symm ne_sa_b)))
  have F15_choices_b := (Fld.other W15 F_choices (Or.inl (Ne.symm ne_sa_b)))
  have X15_b := (Exa.wr W15 E)
  have V15_ka := (VA.other W15 (Ne.symm ne_sa_ka))
  have V15_ha := (VH.other W15 (Ne.symm ne_sa_ha))
  have P15 := (P0.wr W15 (Or.inl (List.mem_of_getElem? (i := 2) rfl)))
  have V15_sa := VS.set W15
  refine Jvm.OwnWp.aloadN K d_prog_2_method_5_14 rfl rfl (pc' := 15) rfl ?_
  refine Jvm.OwnWp.dup K d_prog_2_method_5_15 rfl (pc' := 16) rfl ?_
  refine Jvm.OwnWp.getf K (wd41 hw) Via.refl F15_count_b d_prog_2_method_5_16 (pc' := 19) rfl ?_
  refine Jvm.OwnWp.iconst K (1 : Int32) d_prog_2_method_5_19 (by decide) (pc' := 20) rfl ?_
  refine Jvm.OwnWp.isub K d_prog_2_method_5_20 (pc' := 21) rfl ?_
  rw [show (Int32.ofNat n) - (1 : Int32) = Int32.ofNat (n - 1) from o_sub1 (by omega) (by omega)]
  refine putf K (wd41 hw) Via.refl F15_count_b X15_b (Or.inl (wd42 hw)) (wd2 hw) (ty := .int) (by decide) rfl rfl ge_b d_prog_2_method_5_21 (pc' := 24) rfl ?_
  intro h16 W16
  have F16_activity_b := (Fld.other W16 F15_activity_b (Or.inr (sn_ByActivity_activity_count hw)))
  have F16_heap_b := (Fld.other W16 F15_heap_b (Or.inr (sn_ByActivity_heap_count hw)))
  have F16_slot_b := (Fld.other W16 F15_slot_b (Or.inr (sn_ByActivity_slot_count hw)))
  have F16_gain_b := (Fld.other W16 F15_gain_b (Or.inr (sn_ByActivity_gain_count hw)))
  have F16_choices_b := (Fld.other W16 F15_choices_b (Or.inr (sn_ByActivity_choices_count hw)))
  have X16_b := (Exa.wr W16 X15_b)
  have V16_ka := (V15_ka.other W16 ne_ka_b)
  have V16_ha := (V15_ha.other W16 ne_ha_b)
  have V16_sa := (V15_sa.other W16 ne_sa_b)
  have P16 := (P15.wr W16 (Or.inl (List.mem_of_getElem? (i := 0) rfl)))
  have F16_count_b := Fld.same W16 F15_count_b
  refine Jvm.OwnWp.aloadN K d_prog_2_method_5_24 rfl rfl (pc' := 25) rfl ?_
  refine Jvm.OwnWp.getf K (wd41 hw) Via.refl F16_count_b d_prog_2_method_5_25 (pc' := 28) rfl ?_
  by_cases c1 : 0 < (Int32.ofNat (n - 1))
  · refine ifN K d_prog_2_method_5_28 (XT.i0_le_f c1) (pc' := 31) rfl ?_
    have n1 := (o_pos (by omega : n - 1 < 1000)).mp c1
    refine Jvm.OwnWp.aloadN K d_prog_2_method_5_31 rfl rfl (pc' := 32) rfl ?_
    refine Jvm.OwnWp.aloadN K d_prog_2_method_5_32 rfl rfl (pc' := 33) rfl ?_
    refine Jvm.OwnWp.getf K (wd27 hw) Via.refl F16_heap_b d_prog_2_method_5_33 (pc' := 36) rfl ?_
    refine Jvm.OwnWp.aloadN K d_prog_2_method_5_36 rfl rfl (pc' := 37) rfl ?_
    refine Jvm.OwnWp.getf K (wd41 hw) Via.refl F16_count_b d_prog_2_method_5_37 (pc' := 40) rfl ?_
    refine iaload K (i := (n - 1)) V16_ha (o_int (by omega)) (mapAt (getDAt (d := 0) (by omega))) d_prog_2_method_5_40 (pc' := 41) rfl ?_
    refine Jvm.OwnWp.iconst K (0 : Int32) d_prog_2_method_5_41 (by decide) (pc' := 42) rfl ?_
    show Go _ _ _ _ _ _ _ _ _ _ _ h16 0 0 (mkF m 42 #[.val (.ref b), .val (.int (Int32.ofNat (Hl.getD 0 0)))] [(.int (Int32.ofNat 0)), (.int (Int32.ofNat (Hl.getD (n - 1) 0))), (.ref b)]) _
    refine callPriv K (y := (⟨"com/example/sightline/sightline/checker/ByActivity", "place", "(II)V"⟩ : MethodName)) (b := b) (argsL := [(.int (Int32.ofNat (Hl.getD (n - 1) 0))), (.int (Int32.ofNat 0))]) (S := []) (wd43 hw) (wd44 hw) (wd45 hw) (wd2 hw) (wd3 hw) (wd46 hw) (by decide) X16_b (c_place l Z a0 hw [] b ha sa (Hl.getD (n - 1) 0) 0 Hl (Sl.set (Hl.getD 0 0) (-1)) h16 n0 (Nat.le_trans Z0 P16.1) (by omega) (by rw [List.length_set]; omega) (by omega) (by omega) F16_heap_b F16_slot_b V16_ha V16_sa ne_sa_ha ne_ha_b ne_sa_b ge_ha ge_sa) (lenOf pd0 rfl) d_prog_2_method_5_42 rfl (Nat.le_of_ble_eq_true rfl) (Nat.le_of_ble_eq_true rfl) (Nat.le_of_ble_eq_true rfl) (Nat.le_of_ble_eq_true rfl) rfl (pc' := 45) rfl ?_
    rintro v17 h17 ⟨rfl, K17, Q17_VH, Q17_VS⟩
    have F17_activity_b := (Fld.keep F16_activity_b K17 (ninS (Ne.symm ne_ha_b) (ninS (Ne.symm ne_sa_b) (nin0))))
    have F17_heap_b := (Fld.keep F16_heap_b K17 (ninS (Ne.symm ne_ha_b) (ninS (Ne.symm ne_sa_b) (nin0))))
    have F17_slot_b := (Fld.keep F16_slot_b K17 (ninS (Ne.symm ne_ha_b) (ninS (Ne.symm ne_sa_b) (nin0))))
    have F17_count_b := (Fld.keep F16_count_b K17 (ninS (Ne.symm ne_ha_b) (ninS (Ne.symm ne_sa_b) (nin0))))
    have F17_gain_b := (Fld.keep F16_gain_b K17 (ninS (Ne.symm ne_ha_b) (ninS (Ne.symm ne_sa_b) (nin0))))
    have F17_choices_b := (Fld.keep F16_choices_b K17 (ninS (Ne.symm ne_ha_b) (ninS (Ne.symm ne_sa_b) (nin0))))
    have X17_b := (Exa.keep X16_b K17)
    have V17_ka := (V16_ka.keep K17 (ninS (Ne.symm ne_ha_ka) (ninS (Ne.symm ne_sa_ka) (nin0))))
    have P17 := (P16.trans K17 (allS (Or.inl (List.mem_of_getElem? (i := 1) rfl)) (allS (Or.inl (List.mem_of_getElem? (i := 2) rfl)) (all0))))
    show Go _ _ _ _ _ _ _ _ _ _ _ h17 0 0 (mkF m 45 #[.val (.ref b), .val (.int (Int32.ofNat (Hl.getD 0 0)))] []) _
    refine Jvm.OwnWp.aloadN K d_prog_2_method_5_45 rfl rfl (pc' := 46) rfl ?_
    refine Jvm.OwnWp.iconst K (0 : Int32) d_prog_2_method_5_46 (by decide) (pc' := 47) rfl ?_
    show Go _ _ _ _ _ _ _ _ _ _ _ h17 0 0 (mkF m 47 #[.val (.ref b), .val (.int (Int32.ofNat (Hl.getD 0 0)))] [(.int (Int32.ofNat 0)), (.ref b)]) _
    refine callPriv K (y := (⟨"com/example/sightline/sightline/checker/ByActivity", "down", "(I)V"⟩ : MethodName)) (b := b) (argsL := [(.int (Int32.ofNat 0))]) (S := []) (wd65 hw) (wd66 hw) (wd67 hw) (wd2 hw) (wd3 hw) (wd68 hw) (by decide) X17_b (c_down l Z a0 hw [] b ka ha sa N (n - 1) 0 Al (Hl.set 0 (Hl.getD (n - 1) 0)) ((Sl.set (Hl.getD 0 0) (-1)).set (Hl.getD (n - 1) 0) (Int32.ofNat 0)) h17 n0 (Nat.le_trans Z0 P17.1) hA (by rw [List.length_set]; exact hH) (by rw [List.length_set, List.length_set]; exact hS) N0 N9 (hB.set 0 hl) N0 (by omega) X17_b F17_activity_b F17_heap_b F17_slot_b V17_ka Q17_VH Q17_VS F17_count_b ne_sa_ha ne_ha_ka ne_sa_ka ne_ha_b ne_sa_b ge_ha ge_sa) (lenOf pd1 rfl) d_prog_2_method_5_47 rfl (Nat.le_of_ble_eq_true rfl) (Nat.le_of_ble_eq_true rfl) (Nat.le_of_ble_eq_true rfl) (Nat.le_of_ble_eq_true rfl) rfl (pc' := 50) rfl ?_
    rintro v18 h18 ⟨rfl, K18, Q18_VH, Q18_VS⟩
    have F18_activity_b := (Fld.keep F17_activity_b K18 (ninS (Ne.symm ne_ha_b) (ninS (Ne.symm ne_sa_b) (nin0))))
    have F18_heap_b := (Fld.keep F17_heap_b K18 (ninS (Ne.symm ne_ha_b) (ninS (Ne.symm ne_sa_b) (nin0))))
    have F18_slot_b := (Fld.keep F17_slot_b K18 (ninS (Ne.symm ne_ha_b) (ninS (Ne.symm ne_sa_b) (nin0))))
    have F18_count_b := (Fld.keep F17_count_b K18 (ninS (Ne.symm ne_ha_b) (ninS (Ne.symm ne_sa_b) (nin0))))
    have F18_gain_b := (Fld.keep F17_gain_b K18 (ninS (Ne.symm ne_ha_b) (ninS (Ne.symm ne_sa_b) (nin0))))
    have F18_choices_b := (Fld.keep F17_choices_b K18 (ninS (Ne.symm ne_ha_b) (ninS (Ne.symm ne_sa_b) (nin0))))
    have X18_b := (Exa.keep X17_b K18)
    have V18_ka := (V17_ka.keep K18 (ninS (Ne.symm ne_ha_ka) (ninS (Ne.symm ne_sa_ka) (nin0))))
    have P18 := (P17.trans K18 (allS (Or.inl (List.mem_of_getElem? (i := 1) rfl)) (allS (Or.inl (List.mem_of_getElem? (i := 2) rfl)) (all0))))
    show Go _ _ _ _ _ _ _ _ _ _ _ h18 0 0 (mkF m 50 #[.val (.ref b), .val (.int (Int32.ofNat (Hl.getD 0 0)))] []) _
    have er : downB Al (n - 1) ((Hl.set 0 (Hl.getD (n - 1) 0)).getD 0 0) (Hl.set 0 (Hl.getD (n - 1) 0)) ((Sl.set (Hl.getD 0 0) (-1)).set (Hl.getD (n - 1) 0) (Int32.ofNat 0)) 0 = popB Al Hl Sl n := by
      unfold popB; rw [if_pos n1]; congr 1; rw [List.getD_eq_getElem?_getD, List.getElem?_set, if_pos rfl, if_pos (by omega)]; rfl
    rw [er] at Q18_VH Q18_VS
    refine Jvm.OwnWp.iloadN K d_prog_2_method_5_50 rfl (pc' := 51) rfl ?_
    refine retI K rfl d_prog_2_method_5_51 (Nat.le_of_ble_eq_true rfl) (Nat.le_of_ble_eq_true rfl) ?_
    exact ⟨rfl, P18, X18_b, F18_activity_b, F18_heap_b, F18_slot_b, F18_count_b, F18_gain_b, F18_choices_b, V18_ka, Q18_VH, Q18_VS⟩
  · refine ifY K d_prog_2_method_5_28 (XT.i0_le_t c1) (pc' := 50) (by decide) (by decide) ?_
    refine Jvm.OwnWp.iloadN K d_prog_2_method_5_50 rfl (pc' := 51) rfl ?_
    have er : popB Al Hl Sl n = (Hl, Sl.set (Hl.getD 0 0) (-1)) := by unfold popB; rw [if_neg (fun q => c1 ((o_pos (by omega)).mpr q))]
    refine retI K rfl d_prog_2_method_5_51 (Nat.le_of_ble_eq_true rfl) (Nat.le_of_ble_eq_true rfl) ?_
    rw [er]
    exact ⟨rfl, P16, X16_b, F16_activity_b, F16_heap_b, F16_slot_b, F16_count_b, F16_gain_b, F16_choices_b, V16_ka, V16_ha, V16_sa⟩
theorem fill_step {xs : List Int32} {x : Int32} {j : Nat} (h : j < xs.length) : (List.replicate j x ++ xs.drop j).set j x = List.replicate (j + 1) x ++ xs.drop (j + 1) := by
  rw [List.set_append_right _ _ (by simp), List.length_replicate, Nat.sub_self, List.drop_eq_getElem_cons h, List.set_cons_zero, List.replicate_succ', List.append_assoc]; rfl
set_option maxRecDepth 65536 in
set_option maxHeartbeats 40000000 in
theorem c_fill (l : Launch) (Z : State) (a0 : Array Value) (hw : ∀ d ∈ tables_1, d.before a0 Z = true) (ws : List Jvm.Cond) (a : Addr) (x : Int32) (N : Nat) (xs : List Int32) (h0 : Heap) (n0 : Nat) (Z0 : n0 ≤ h0.size) (hl : xs.length = N) (N9 : N < 100) (V : IV Z h0 a xs) (ge_a : n0 ≤ a) :
    Ctr l Z (⟨"java/util/Arrays", "fill", "([II)V"⟩ : MethodName) jdk_65_method_103_code 4 none ws ({ frames := 0, cells := 0, slots := 0, locals := 0 } : Room) n0 #[(.ref a), (.int x)] h0 (fun v h => v = none ∧ Keep h0 h [a] ∧ IV Z h a (List.replicate N x)) := by
  refine ctr (own := "java/util/Arrays") (nm := "fill") rfl rfl (Ls := #[.val (.ref a), .val (.int x), .unset, .unset]) (plainFor_of_name pn1) (fun m => by first | (simp [entryFrame, mkF, argsToLocals, Value.category]; done) | rfl) ?_
  intro p e s m below meth c K eh
  have P0 := Keep.refl h0 [a]
  refine Jvm.OwnWp.iconst K (0 : Int32) d_jdk_65_method_103_0 (by decide) (pc' := 1) rfl ?_
  refine Jvm.OwnWp.istoreN K d_jdk_65_method_103_1 (Ls' := #[.val (.ref a), .val (.int x), .val (.int (0 : Int32)), .unset]) rfl (pc' := 2) rfl ?_
  refine Jvm.OwnWp.aloadN K d_jdk_65_method_103_2 rfl rfl (pc' := 3) rfl ?_
  refine alen K V d_jdk_65_method_103_3 (pc' := 4) rfl ?_
  rw [show (xs.map Value.int).length.toInt32 = Int32.ofNat N from by rw [List.length_map, hl]]
  refine Jvm.OwnWp.istoreN K d_jdk_65_method_103_4 (Ls' := #[.val (.ref a), .val (.int x), .val (.int (0 : Int32)), .val (.int (Int32.ofNat N))]) rfl (pc' := 5) rfl ?_
  show Go _ _ _ _ _ _ _ _ _ _ _ h0 0 0 (mkF m 5 #[.val (.ref a), .val (.int x), .val (.int (Int32.ofNat 0)), .val (.int (Int32.ofNat N))] []) _
  have loop : ∀ (f j : Nat) (hh : Heap), N - j ≤ f → j ≤ N → Keep h0 hh [a] → IV Z hh a (List.replicate j x ++ xs.drop j) → Go p l e ({ frames := 0, cells := 0, slots := 0, locals := 0 } : Room) s m #[(.ref a), (.int x)] below meth c n0 hh 0 0 (mkF m 5 #[.val (.ref a), .val (.int x), .val (.int (Int32.ofNat j)), .val (.int (Int32.ofNat N))] []) (fun v h => v = none ∧ Keep h0 h [a] ∧ IV Z h a (List.replicate N x)) := by
    intro f
    induction f with
    | zero =>
      intro j hh hf hj LP LV
      refine Jvm.OwnWp.iloadN K d_jdk_65_method_103_5 rfl (pc' := 6) rfl ?_
      refine Jvm.OwnWp.iloadN K d_jdk_65_method_103_6 rfl (pc' := 7) rfl ?_
      refine icY K d_jdk_65_method_103_7 (XT.ii_ge_t (fun q => absurd ((o_lt (by omega) (by omega)).mp q) (by omega))) (pc' := 20) (by decide) (by decide) ?_
      refine retV K rfl d_jdk_65_method_103_20 (Nat.le_of_ble_eq_true rfl) (Nat.le_of_ble_eq_true rfl) ?_
      have ej : j = N := by omega
      subst ej
      rw [List.drop_eq_nil_of_le (by omega), List.append_nil] at LV
      exact ⟨rfl, LP, LV⟩
    | succ f ih =>
      intro j hh hf hj LP LV
      refine Jvm.OwnWp.iloadN K d_jdk_65_method_103_5 rfl (pc' := 6) rfl ?_
      refine Jvm.OwnWp.iloadN K d_jdk_65_method_103_6 rfl (pc' := 7) rfl ?_
      by_cases c1 : (Int32.ofNat j) < (Int32.ofNat N)
      · refine icN K d_jdk_65_method_103_7 (XT.ii_ge_f c1) (pc' := 10) rfl ?_
        have hj2 := (o_lt (by omega : j < 1000) (by omega : N < 1000)).mp c1
        refine Jvm.OwnWp.aloadN K d_jdk_65_method_103_10 rfl rfl (pc' := 11) rfl ?_
        refine Jvm.OwnWp.iloadN K d_jdk_65_method_103_11 rfl (pc' := 12) rfl ?_
        refine Jvm.OwnWp.iloadN K d_jdk_65_method_103_12 rfl (pc' := 13) rfl ?_
        refine iastore K (i := j) LV (o_int (by omega)) (mapLt (by simp; omega)) ge_a d_jdk_65_method_103_13 (pc' := 14) rfl ?_
        intro h19 W19
        have P19 := (LP.wr W19 (Or.inl (List.mem_of_getElem? (i := 0) rfl)))
        have V19_a := LV.set W19
        refine Jvm.OwnWp.iinc K (1 : Int32) d_jdk_65_method_103_14 (by decide) rfl (Ls' := #[.val (.ref a), .val (.int x), .val (.int ((Int32.ofNat j) + (1 : Int32))), .val (.int (Int32.ofNat N))]) rfl (pc' := 17) rfl ?_
        rw [show (Int32.ofNat j) + (1 : Int32) = Int32.ofNat (j + 1) from o_add1 (by omega)]
        refine goto' K d_jdk_65_method_103_17 (pc' := 5) (by decide) (by decide) ?_
        exact ih _ _ (by omega) (by omega) P19 (by
          have e : (List.replicate j x ++ xs.drop j).set j x = List.replicate (j + 1) x ++ xs.drop (j + 1) := fill_step (by omega)
          rw [e] at V19_a; exact V19_a)
      · refine icY K d_jdk_65_method_103_7 (XT.ii_ge_t c1) (pc' := 20) (by decide) (by decide) ?_
        have hj2 : ¬ j < N := fun q => c1 ((o_lt (by omega) (by omega)).mpr q)
        refine retV K rfl d_jdk_65_method_103_20 (Nat.le_of_ble_eq_true rfl) (Nat.le_of_ble_eq_true rfl) ?_
        have ej : j = N := by omega
        subst ej
        rw [List.drop_eq_nil_of_le (by omega), List.append_nil] at LV
        exact ⟨rfl, LP, LV⟩
  exact loop _ 0 _ (Nat.le_refl _) (Nat.zero_le _) P0 (by simpa using V)
/-! the sifts keep the heap's order and each choice's place -/
section OrderB
open Jvm.OwnHeap
theorem o_inj {a b : Nat} (ha : a < 1000) (hb : b < 1000) (h : Int32.ofNat a = Int32.ofNat b) : a = b := by
  have := congrArg Int32.toInt h; rw [o_int ha, o_int hb] at this; omega
def κa (A : List UInt64) (x : Nat) : Int := kv (A.getD x 0)
def Nums (A : List UInt64) : Prop := ∀ j, Num (A.getD j 0)
def PS (n : Nat) (H : List Nat) (S : List Int32) : Prop := ∀ i, i < n → S.getD (H.getD i 0) 0 = Int32.ofNat i
def ABS (N n : Nat) (H : List Nat) (S : List Int32) : Prop := ∀ c, c < N → (∀ i, i < n → H.getD i 0 ≠ c) → S.getD c 0 = -1
def WF (N n : Nat) (H : List Nat) (S : List Int32) : Prop := H.length = N ∧ S.length = N ∧ n ≤ N ∧ Bd N H ∧ PS n H S ∧ ABS N n H S
def Ord' (A : List UInt64) (n : Nat) (H : List Nat) : Prop := ∀ i, 0 < i → i < n → κa A (H.getD i 0) ≤ κa A (H.getD ((i - 1) / 2) 0)
theorem PS.inj {n : Nat} {H : List Nat} {S : List Int32} (h : PS n H S) (hn : n < 1000) {i j : Nat} (hi : i < n) (hj : j < n) (e : H.getD i 0 = H.getD j 0) : i = j := by
  have h1 := h i hi; have h2 := h j hj
  rw [e, h2] at h1
  exact (o_inj (by omega) (by omega) h1).symm
theorem setSame {α : Type} {l : List α} {i : Nat} {d x : α} (h : i < l.length) (e : l.getD i d = x) : l.set i x = l := by
  rw [← e, gi l i d h]; exact List.set_getElem_self h
/-- one swap of the hole with the place q: the places stay right -/
theorem swapWF {N n i q c : Nat} {H : List Nat} {S : List Int32} (N9 : N < 100) (hi : i < n) (hq : q < n) (ne : q ≠ i) (hH : H.length = N) (hS : S.length = N) (hn : n ≤ N) (hB : Bd N H) (hc : c < N) (hPS : PS n (H.set i c) (S.set c (Int32.ofNat i))) (hAB : ABS N n (H.set i c) (S.set c (Int32.ofNat i))) :
    PS n ((H.set i (H.getD q 0)).set q c) ((S.set (H.getD q 0) (Int32.ofNat i)).set c (Int32.ofNat q)) ∧ ABS N n ((H.set i (H.getD q 0)).set q c) ((S.set (H.getD q 0) (Int32.ofNat i)).set c (Int32.ofNat q)) ∧ H.getD q 0 ≠ c := by
  have gI := gs (l := H) (i := i) (by omega) c 0
  have gS := gs (l := S) (i := c) (by omega) (Int32.ofNat i) 0
  have gI1 := gs (l := H) (i := i) (by omega) (H.getD q 0) 0
  have gI2 := gs (l := H.set i (H.getD q 0)) (i := q) (by rw [List.length_set]; omega) c 0
  have gS1 := gs (l := S) (i := H.getD q 0) (by have := hB q; omega) (Int32.ofNat i) 0
  have gS2 := gs (l := S.set (H.getD q 0) (Int32.ofNat i)) (i := c) (by rw [List.length_set]; omega) (Int32.ofNat q) 0
  simp only [gI1] at gI2
  simp only [gS1] at gS2
  have hqc : H.getD q 0 ≠ c := fun e => by
    have := hPS.inj (by omega) hq hi (by rw [gI, gI, if_neg ne, if_pos rfl]; exact e)
    exact ne this
  have hk : ∀ k, k < n → k ≠ i → k ≠ q → H.getD k 0 ≠ c ∧ H.getD k 0 ≠ H.getD q 0 := fun k hk k1 k2 =>
    ⟨fun e => k1 (hPS.inj (by omega) hk hi (by rw [gI, gI, if_neg k1, if_pos rfl]; exact e)), fun e => k2 (hPS.inj (by omega) hk hq (by rw [gI, gI, if_neg k1, if_neg ne]; exact e))⟩
  refine ⟨fun k hkn => ?_, fun c' hc' hno => ?_, hqc⟩
  · rw [gI2, gS2]
    by_cases e1 : k = q
    · rw [if_pos e1, if_pos rfl, e1]
    · rw [if_neg e1]
      by_cases e2 : k = i
      · rw [if_pos e2, if_neg hqc, if_pos rfl, e2]
      · rw [if_neg e2, if_neg (hk k hkn e2 e1).1, if_neg (hk k hkn e2 e1).2]
        have := hPS k hkn
        rw [gI, if_neg e2, gS, if_neg (hk k hkn e2 e1).1] at this
        exact this
  · have n1 : c' ≠ c := fun e => hno q hq (by rw [gI2, if_pos rfl]; exact e.symm)
    have n2 : c' ≠ H.getD q 0 := fun e => hno i hi (by rw [gI2, if_neg (fun z => ne z.symm), if_pos rfl]; exact e.symm)
    rw [gS2, if_neg n1, if_neg n2]
    have := hAB c' hc' (fun k hkn e => by
      rw [gI] at e
      by_cases e2 : k = i
      · rw [if_pos e2] at e; exact n1 e.symm
      · rw [if_neg e2] at e
        by_cases e1 : k = q
        · rw [e1] at e; exact n2 e.symm
        · exact hno k hkn (by rw [gI2, if_neg e1, if_neg e2]; exact e))
    rw [gS, if_neg n1] at this
    exact this
theorem upB_spec {A : List UInt64} {N n c : Nat} (N9 : N < 100) (hA : Nums A) (hn : n ≤ N) (hc : c < N) : ∀ (i : Nat) (H : List Nat) (S : List Int32), i < n → H.length = N → S.length = N → Bd N H → PS n (H.set i c) (S.set c (Int32.ofNat i)) → ABS N n (H.set i c) (S.set c (Int32.ofNat i)) →
    (∀ k, 0 < k → k < n → k ≠ i → κa A ((H.set i c).getD k 0) ≤ κa A ((H.set i c).getD ((k - 1) / 2) 0)) →
    (0 < i → ∀ k, k < n → 0 < k → (k - 1) / 2 = i → κa A ((H.set i c).getD k 0) ≤ κa A ((H.set i c).getD ((i - 1) / 2) 0)) →
    WF N n (upB A c H S i).1 (upB A c H S i).2 ∧ Ord' A n (upB A c H S i).1 ∧ ((upB A c H S i).1.take n).Perm ((H.set i c).take n) := by
  intro i
  induction i using Nat.strongRecOn with
  | _ i ih =>
    intro H S hi hH hS hB hPS hAB H2 H3
    have gI := gs (l := H) (i := i) (by omega) c 0
    have fin : (∀ k, 0 < k → k < n → κa A ((H.set i c).getD k 0) ≤ κa A ((H.set i c).getD ((k - 1) / 2) 0)) → WF N n (H.set i c) (S.set c (Int32.ofNat i)) ∧ Ord' A n (H.set i c) ∧ ((H.set i c).take n).Perm ((H.set i c).take n) := fun h =>
      ⟨⟨by rw [List.length_set]; exact hH, by rw [List.length_set]; exact hS, hn, hB.set i hc, hPS, hAB⟩, h, List.Perm.refl _⟩
    by_cases h0 : 0 < i
    · have hp : (i - 1) / 2 ≠ i := by omega
      have hpn : (i - 1) / 2 < n := by omega
      by_cases q : FP.dcmp (A.getD (H.getD ((i - 1) / 2) 0) 0) (A.getD c 0) = some .lt
      · rw [upB_go h0 q]
        have q' : κa A (H.getD ((i - 1) / 2) 0) < κa A c := (cmp_lt (hA _) (hA _)).mp q
        obtain ⟨w1, w2, -⟩ := swapWF N9 hi hpn hp hH hS hn hB hc hPS hAB
        have gI1 := gs (l := H) (i := i) (by omega) (H.getD ((i - 1) / 2) 0) 0
        have gI2 := gs (l := H.set i (H.getD ((i - 1) / 2) 0)) (i := (i - 1) / 2) (by rw [List.length_set]; omega) c 0
        simp only [gI1] at gI2
        obtain ⟨r1, r2, r3⟩ := ih ((i - 1) / 2) (by omega) (H.set i (H.getD ((i - 1) / 2) 0)) (S.set (H.getD ((i - 1) / 2) 0) (Int32.ofNat i)) hpn (by rw [List.length_set]; exact hH) (by rw [List.length_set]; exact hS) (hB.set i (hB _)) w1 w2
          (by
            intro k k0 hk ne
            rw [gI2, gI2, if_neg ne]
            by_cases e2 : k = i
            · subst e2; rw [if_pos rfl, if_pos rfl]; omega
            · rw [if_neg e2]
              have Hi := H2 k k0 hk e2
              rw [gI, gI, if_neg e2] at Hi
              by_cases e3 : (k - 1) / 2 = (i - 1) / 2
              · rw [if_pos e3]
                have e4 : (k - 1) / 2 ≠ i := by omega
                rw [if_neg e4, e3] at Hi
                omega
              · rw [if_neg e3]
                by_cases e4 : (k - 1) / 2 = i
                · rw [if_pos e4]
                  have H := H3 h0 k hk k0 e4
                  rw [gI, gI, if_neg hp, if_neg e2] at H
                  exact H
                · rw [if_neg e4]; rw [if_neg e4] at Hi; exact Hi)
          (by
            intro p0 k hk k0 ep
            have hpp : ((i - 1) / 2 - 1) / 2 ≠ (i - 1) / 2 := by omega
            have hpp2 : ((i - 1) / 2 - 1) / 2 ≠ i := by omega
            rw [gI2, gI2, if_neg hpp, if_neg hpp2]
            have Hp := H2 ((i - 1) / 2) p0 hpn hp
            rw [gI, gI, if_neg hpp2, if_neg hp] at Hp
            have e1 : k ≠ (i - 1) / 2 := by omega
            rw [if_neg e1]
            by_cases e2 : k = i
            · rw [if_pos e2]; exact Hp
            · rw [if_neg e2]
              have Hi := H2 k k0 hk e2
              have e4 : (k - 1) / 2 ≠ i := by omega
              rw [gI, gI, if_neg e2, if_neg e4, ep] at Hi
              omega)
        refine ⟨r1, r2, r3.trans ?_⟩
        have e := takeSwap (H.set i c) 0 (n := n) (i := i) (j := (i - 1) / 2) (by rw [List.length_set]; omega) hi hpn
        rw [List.set_set, gI, if_neg hp, gI, if_pos rfl] at e
        exact e
      · rw [upB_stop h0 q]
        have q' : κa A c ≤ κa A (H.getD ((i - 1) / 2) 0) := Int.not_lt.mp (fun z => q ((cmp_lt (hA _) (hA _)).mpr z))
        refine fin fun k k0 hk => ?_
        by_cases e : k = i
        · subst e; rw [gI, gI, if_pos rfl, if_neg hp]; exact q'
        · exact H2 k k0 hk e
    · rw [upB_zero h0]
      exact fin fun k k0 hk => H2 k k0 hk (by omega)
theorem downB_spec {A : List UInt64} {N n c : Nat} (N9 : N < 100) (hA : Nums A) (hn : n ≤ N) (hc : c < N) : ∀ (f i : Nat) (H : List Nat) (S : List Int32), n - i ≤ f → i < n → H.length = N → S.length = N → Bd N H → PS n (H.set i c) (S.set c (Int32.ofNat i)) → ABS N n (H.set i c) (S.set c (Int32.ofNat i)) →
    (∀ k, 0 < k → k < n → (k - 1) / 2 ≠ i → κa A ((H.set i c).getD k 0) ≤ κa A ((H.set i c).getD ((k - 1) / 2) 0)) →
    (0 < i → ∀ k, k < n → 0 < k → (k - 1) / 2 = i → κa A ((H.set i c).getD k 0) ≤ κa A ((H.set i c).getD ((i - 1) / 2) 0)) →
    WF N n (downB A n c H S i).1 (downB A n c H S i).2 ∧ Ord' A n (downB A n c H S i).1 ∧ ((downB A n c H S i).1.take n).Perm ((H.set i c).take n) := by
  intro f
  induction f with
  | zero => intro i H S hf hi; omega
  | succ f ih =>
    intro i H S hf hi hH hS hB hPS hAB H2 H3
    have gI := gs (l := H) (i := i) (by omega) c 0
    have fin : (∀ k, 0 < k → k < n → κa A ((H.set i c).getD k 0) ≤ κa A ((H.set i c).getD ((k - 1) / 2) 0)) → WF N n (H.set i c) (S.set c (Int32.ofNat i)) ∧ Ord' A n (H.set i c) ∧ ((H.set i c).take n).Perm ((H.set i c).take n) := fun h =>
      ⟨⟨by rw [List.length_set]; exact hH, by rw [List.length_set]; exact hS, hn, hB.set i hc, hPS, hAB⟩, h, List.Perm.refl _⟩
    by_cases h0 : 2 * i + 1 < n
    · have hb := kidB_bd A n H i
      have hcn : kidB A n H i < n := by omega
      have hch : kidB A n H i ≠ i := by omega
      have most : ∀ k, k < n → 0 < k → (k - 1) / 2 = i → κa A (H.getD k 0) ≤ κa A (H.getD (kidB A n H i) 0) := by
        intro k hk k0 ek
        have hk2 : k = 2 * i + 1 ∨ k = 2 * i + 2 := by omega
        unfold kidB
        split
        · rename_i z
          have := (cmp_gt (hA _) (hA _)).mp z.2
          rcases hk2 with rfl | rfl
          · exact Int.le_of_lt this
          · exact Int.le_refl _
        · rename_i z
          rcases hk2 with rfl | rfl
          · exact Int.le_refl _
          · exact Int.not_lt.mp (fun t => z ⟨hk, (cmp_gt (hA _) (hA _)).mpr t⟩)
      by_cases q : Jvm.OwnWp.dle (FP.dcmp (A.getD (H.getD (kidB A n H i) 0) 0) (A.getD c 0))
      · rw [downB_stop h0 q]
        have q' : κa A (H.getD (kidB A n H i) 0) ≤ κa A c := (cmp_le (hA _) (hA _)).mp q
        refine fin fun k k0 hk => ?_
        by_cases e : (k - 1) / 2 = i
        · have := most k hk k0 e
          rw [gI, gI, if_pos e, if_neg (by omega)]; omega
        · exact H2 k k0 hk e
      · rw [downB_go h0 q]
        have q' : κa A c < κa A (H.getD (kidB A n H i) 0) := Int.not_le.mp (fun z => q ((cmp_le (hA _) (hA _)).mpr z))
        obtain ⟨w1, w2, -⟩ := swapWF N9 hi hcn hch hH hS hn hB hc hPS hAB
        have gI1 := gs (l := H) (i := i) (by omega) (H.getD (kidB A n H i) 0) 0
        have gI2 := gs (l := H.set i (H.getD (kidB A n H i) 0)) (i := kidB A n H i) (by rw [List.length_set]; omega) c 0
        simp only [gI1] at gI2
        obtain ⟨r1, r2, r3⟩ := ih (kidB A n H i) (H.set i (H.getD (kidB A n H i) 0)) (S.set (H.getD (kidB A n H i) 0) (Int32.ofNat i)) (by omega) hcn (by rw [List.length_set]; exact hH) (by rw [List.length_set]; exact hS) (hB.set i (hB _)) w1 w2
          (by
            intro k k0 hk ne
            rw [gI2, gI2, if_neg ne]
            by_cases e1 : k = kidB A n H i
            · rw [if_pos e1]
              have e3 : (k - 1) / 2 = i := by omega
              rw [if_pos e3]; omega
            · rw [if_neg e1]
              by_cases e3 : (k - 1) / 2 = i
              · rw [if_pos e3, if_neg (by omega)]; exact most k hk k0 e3
              · rw [if_neg e3]
                have Hi := H2 k k0 hk e3
                rw [gI, gI, if_neg e3] at Hi
                by_cases e2 : k = i
                · rw [if_pos e2]
                  subst e2
                  have H := H3 k0 (kidB A n H k) hcn (by omega) (by omega)
                  rw [gI, gI, if_neg e3, if_neg hch] at H
                  exact H
                · rw [if_neg e2]; rw [if_neg e2] at Hi; exact Hi)
          (by
            intro p0 k hk k0 ep
            have e5 : (kidB A n H i - 1) / 2 = i := by omega
            rw [e5, gI2, gI2, if_neg (show ¬ k = kidB A n H i by omega), if_neg (show ¬ k = i by omega), if_neg (fun z => hch z.symm), if_pos rfl]
            have Hi := H2 k k0 hk (by omega)
            rw [gI, gI, if_neg (show ¬ k = i by omega), if_neg (show ¬ (k - 1) / 2 = i by omega), ep] at Hi
            exact Hi)
        refine ⟨r1, r2, r3.trans ?_⟩
        have e := takeSwap (H.set i c) 0 (n := n) (i := i) (j := kidB A n H i) (by rw [List.length_set]; omega) hi hcn
        rw [List.set_set, gI, if_neg hch, gI, if_pos rfl] at e
        exact e
    · rw [downB_end h0]
      exact fin fun k k0 hk => H2 k k0 hk (by omega)
theorem rootB {A : List UInt64} {n : Nat} {H : List Nat} (h : Ord' A n H) : ∀ i, i < n → κa A (H.getD i 0) ≤ κa A (H.getD 0 0) := by
  intro i
  induction i using Nat.strongRecOn with
  | _ i ih =>
    intro hi
    by_cases z : i = 0
    · subst z; exact Int.le_refl _
    · exact Int.le_trans (h i (by omega) hi) (ih ((i - 1) / 2) (by omega) (by omega))
theorem not_in {N n : Nat} {H : List Nat} {S : List Int32} (h : WF N n H S) (N9 : N < 100) {c : Nat} (hc : S.getD c 0 = -1) : ∀ i, i < n → H.getD i 0 ≠ c := fun i hi e => by
  obtain ⟨-, -, hn, -, hPS, -⟩ := h
  have := hPS i hi
  rw [e, hc] at this
  exact o_nm1 (by omega) this.symm
theorem push_spec {A : List UInt64} {N n c : Nat} {H : List Nat} {S : List Int32} (N9 : N < 100) (hA : Nums A) (h : WF N n H S) (o : Ord' A n H) (hn : n < N) (hc : c < N) (hs : S.getD c 0 = -1) :
    WF N (n + 1) (pushB A c H S n).1 (pushB A c H S n).2 ∧ Ord' A (n + 1) (pushB A c H S n).1 ∧ ((pushB A c H S n).1.take (n + 1)).Perm (c :: H.take n) := by
  have hno := not_in h N9 hs
  obtain ⟨hH, hS, -, hB, hPS, hAB⟩ := h
  have gI := gs (l := H) (i := n) (by omega) c 0
  have gS := gs (l := S) (i := c) (by omega) (Int32.ofNat n) 0
  unfold pushB
  obtain ⟨a, b, d⟩ := upB_spec N9 hA (n := n + 1) (c := c) (by omega) hc n (H.set n c) (S.set c (Int32.ofNat n)) (by omega) (by rw [List.length_set]; exact hH) (by rw [List.length_set]; exact hS) (hB.set n hc)
    (by
      rw [List.set_set, List.set_set]
      intro k hk
      rw [gI, gS]
      by_cases e : k = n
      · rw [if_pos e, if_pos rfl, e]
      · rw [if_neg e, if_neg (hno k (by omega))]; exact hPS k (by omega))
    (by
      rw [List.set_set, List.set_set]
      intro c' hc' hq
      have n1 : c' ≠ c := fun e => hq n (by omega) (by rw [gI, if_pos rfl]; exact e.symm)
      rw [gS, if_neg n1]
      exact hAB c' hc' (fun k hk e => hq k (by omega) (by rw [gI, if_neg (by omega)]; exact e)))
    (by
      rw [List.set_set]
      intro k k0 hk ne
      rw [gI, gI, if_neg ne, if_neg (by omega)]; exact o k k0 (by omega))
    (by intro z k hk k0 ek; omega)
  refine ⟨a, b, d.trans ?_⟩
  rw [List.set_set]
  have e : (H.set n c).take (n + 1) = H.take n ++ [c] := by
    rw [List.set_eq_take_append_cons_drop, if_pos (by omega), List.take_append, List.length_take, Nat.min_eq_left (by omega), List.take_take]
    simp
  rw [e]
  exact List.perm_append_comm
/-- an activity that grows: its choice goes up -/
theorem rise_spec {A : List UInt64} {N n c i : Nat} {H : List Nat} {S : List Int32} {a : UInt64} (N9 : N < 100) (hA : Nums A) (ha : Num a) (h : WF N n H S) (o : Ord' A n H) (hcA : c < A.length) (hi : i < n) (hc : H.getD i 0 = c) (hg : kv (A.getD c 0) ≤ kv a) :
    WF N n (upB (A.set c a) (H.getD i 0) H S i).1 (upB (A.set c a) (H.getD i 0) H S i).2 ∧ Ord' (A.set c a) n (upB (A.set c a) (H.getD i 0) H S i).1 ∧ ((upB (A.set c a) (H.getD i 0) H S i).1.take n).Perm (H.take n) := by
  obtain ⟨hH, hS, hn, hB, hPS, hAB⟩ := h
  have hcN : c < N := hc ▸ hB i
  have gA := gs (l := A) (i := c) hcA a 0
  have hA' : Nums (A.set c a) := by
    intro j
    show Num ((A.set c a).getD j 0)
    rw [gA]
    split
    · exact ha
    · exact hA j
  have e1 : H.set i c = H := setSame (by omega) hc
  have e2 : S.set c (Int32.ofNat i) = S := setSame (d := 0) (by omega) (by rw [← hc]; exact hPS i hi)
  rw [hc]
  have hne : ∀ k, k < n → k ≠ i → H.getD k 0 ≠ c := fun k hk ne e => ne (hPS.inj (by omega) hk hi (e.trans hc.symm))
  have k1 : ∀ x, x ≠ c → κa (A.set c a) x = κa A x := fun x hx => by unfold κa; rw [gA, if_neg hx]
  have k2 : κa A c ≤ κa (A.set c a) c := by unfold κa; rw [gA, if_pos rfl]; exact hg
  have k3 : ∀ x, κa A x ≤ κa (A.set c a) x := fun x => by
    by_cases e : x = c
    · rw [e]; exact k2
    · rw [k1 x e]; exact Int.le_refl _
  obtain ⟨a1, a2, a3⟩ := upB_spec N9 hA' hn hcN i H S hi hH hS hB (by rw [e1, e2]; exact hPS) (by rw [e1, e2]; exact hAB)
    (by
      rw [e1]
      intro k k0 hk ne
      rw [k1 _ (hne k hk ne)]
      exact Int.le_trans (o k k0 hk) (k3 _))
    (by
      rw [e1]
      intro i0 k hk k0 ek
      have o1 := o k k0 hk
      rw [ek] at o1
      have o2 := o i i0 hi
      rw [k1 _ (hne k hk (by omega)), k1 _ (hne ((i - 1) / 2) (by omega) (by omega))]
      exact Int.le_trans o1 o2)
  rw [e1] at a3
  exact ⟨a1, a2, a3⟩
theorem pop_spec {A : List UInt64} {N n : Nat} {H : List Nat} {S : List Int32} (N9 : N < 100) (hA : Nums A) (h : WF N n H S) (o : Ord' A n H) (h0 : 0 < n) :
    WF N (n - 1) (popB A H S n).1 (popB A H S n).2 ∧ Ord' A (n - 1) (popB A H S n).1 ∧ (H.take n).Perm (H.getD 0 0 :: (popB A H S n).1.take (n - 1)) ∧ ∀ x ∈ H.take n, κa A x ≤ κa A (H.getD 0 0) := by
  obtain ⟨hH, hS, hn, hB, hPS, hAB⟩ := h
  have ht := hB 0
  have hl := hB (n - 1)
  have hmax : ∀ x ∈ H.take n, κa A x ≤ κa A (H.getD 0 0) := by
    intro x hx
    obtain ⟨i, hi, e⟩ := List.getElem_of_mem hx
    rw [List.length_take] at hi
    have := rootB o i (by omega)
    rw [List.getElem_take] at e
    rw [gi H i 0 (by omega), e] at this
    exact this
  have hp : (H.take n).Perm (H.getD 0 0 :: (H.set 0 (H.getD (n - 1) 0)).take (n - 1)) := by
    have e := takeSwap H 0 (n := n) (i := 0) (j := n - 1) (by omega) h0 (by omega)
    refine e.symm.trans ?_
    have e2 : ((H.set 0 (H.getD (n - 1) 0)).set (n - 1) (H.getD 0 0)).take n = (H.set 0 (H.getD (n - 1) 0)).take (n - 1) ++ [H.getD 0 0] := by
      rw [List.set_eq_take_append_cons_drop (i := n - 1), if_pos (by rw [List.length_set]; omega), List.take_append, List.length_take, List.length_set, Nat.min_eq_left (by omega), List.take_take, Nat.min_eq_right (by omega), show n - (n - 1) = 1 by omega]
      simp
    rw [e2]
    exact List.perm_append_comm
  have gT := gs (l := S) (i := H.getD 0 0) (by omega) (-1) 0
  by_cases h1 : 0 < n - 1
  · have e : popB A H S n = downB A (n - 1) (H.getD (n - 1) 0) (H.set 0 (H.getD (n - 1) 0)) ((S.set (H.getD 0 0) (-1)).set (H.getD (n - 1) 0) (Int32.ofNat 0)) 0 := by unfold popB; rw [if_pos h1]
    rw [e]
    have gI := gs (l := H) (i := 0) (by omega) (H.getD (n - 1) 0) 0
    have gS := gs (l := S.set (H.getD 0 0) (-1)) (i := H.getD (n - 1) 0) (by rw [List.length_set]; omega) (Int32.ofNat 0) 0
    simp only [gT] at gS
    have hne : ∀ k, k < n - 1 → k ≠ 0 → H.getD k 0 ≠ H.getD 0 0 ∧ H.getD k 0 ≠ H.getD (n - 1) 0 := fun k hk z =>
      ⟨fun e => z (hPS.inj (by omega) (by omega) h0 e), fun e => by have := hPS.inj (by omega) (by omega) (by omega) e; omega⟩
    have htl : H.getD 0 0 ≠ H.getD (n - 1) 0 := fun e => by have := hPS.inj (by omega) h0 (by omega) e; omega
    obtain ⟨a, b, c⟩ := downB_spec N9 hA (n := n - 1) (c := H.getD (n - 1) 0) (by omega) hl _ 0 (H.set 0 (H.getD (n - 1) 0)) ((S.set (H.getD 0 0) (-1)).set (H.getD (n - 1) 0) (Int32.ofNat 0)) (Nat.le_refl _) h1 (by rw [List.length_set]; exact hH) (by rw [List.length_set, List.length_set]; exact hS) (hB.set 0 hl)
      (by
        rw [List.set_set, List.set_set]
        intro k hk
        rw [gI, gS]
        by_cases z : k = 0
        · rw [if_pos z, if_pos rfl, z]
        · rw [if_neg z, if_neg (hne k hk z).2, if_neg (hne k hk z).1]; exact hPS k (by omega))
      (by
        rw [List.set_set, List.set_set]
        intro c' hc' hq
        have n1 : c' ≠ H.getD (n - 1) 0 := fun z => hq 0 h1 (by rw [gI, if_pos rfl]; exact z.symm)
        rw [gS, if_neg n1]
        by_cases n2 : c' = H.getD 0 0
        · rw [if_pos n2]
        · rw [if_neg n2]
          refine hAB c' hc' (fun k hk e => ?_)
          by_cases z : k = 0
          · exact n2 (by rw [← e, z])
          · by_cases z2 : k = n - 1
            · exact n1 (by rw [← e, z2])
            · exact hq k (by omega) (by rw [gI, if_neg z]; exact e))
      (by
        rw [List.set_set]
        intro k k0 hk ne
        rw [gI, gI, if_neg (show ¬ k = 0 by omega), if_neg ne]; exact o k k0 (by omega))
      (by intro z; omega)
    rw [List.set_set] at c
    exact ⟨a, b, hp.trans (List.Perm.cons _ c.symm), hmax⟩
  · have e : popB A H S n = (H, S.set (H.getD 0 0) (-1)) := by unfold popB; rw [if_neg h1]
    have en : n = 1 := by omega
    subst en
    rw [e]
    refine ⟨⟨hH, by rw [List.length_set]; exact hS, by omega, hB, fun i hi => by omega, fun c hc hq => ?_⟩, fun i _ hi => by omega, by simpa using hp, hmax⟩
    show (S.set (H.getD 0 0) (-1)).getD c 0 = -1
    rw [gT]
    by_cases z : c = H.getD 0 0
    · rw [if_pos z]
    · rw [if_neg z]
      exact hAB c hc (fun k hk e => z (by rw [← e]; congr 1; omega))
end OrderB

/-! the heap's laws where every gain is one: a choice's activity is its number of bumps -/
section LawsB
open Jvm.OwnHeap
def bumpA (A : List UInt64) (c : Nat) : UInt64 := FP.dadd (A.getD c 0) 4607182418800017408
def Inv (N B n : Nat) (q T : List Nat) (A : List UInt64) (H : List Nat) (S : List Int32) : Prop := (A.length = N) ∧ (q.length = N) ∧ (WF N n H S) ∧ (Ord' A n H) ∧ (∀ j, Jvm.FP.Core.DInt (q.getD j 0 : Nat) (A.getD j 0)) ∧ (∀ j, q.getD j 0 ≤ B) ∧ ((H.take n).Perm T)
theorem Inv.lA {N B n : Nat} {q T : List Nat} {A : List UInt64} {H : List Nat} {S : List Int32} (h : Inv N B n q T A H S) : A.length = N := h.1
theorem Inv.lq {N B n : Nat} {q T : List Nat} {A : List UInt64} {H : List Nat} {S : List Int32} (h : Inv N B n q T A H S) : q.length = N := h.2.1
theorem Inv.wf {N B n : Nat} {q T : List Nat} {A : List UInt64} {H : List Nat} {S : List Int32} (h : Inv N B n q T A H S) : WF N n H S := h.2.2.1
theorem Inv.od {N B n : Nat} {q T : List Nat} {A : List UInt64} {H : List Nat} {S : List Int32} (h : Inv N B n q T A H S) : Ord' A n H := h.2.2.2.1
theorem Inv.di {N B n : Nat} {q T : List Nat} {A : List UInt64} {H : List Nat} {S : List Int32} (h : Inv N B n q T A H S) : ∀ j, Jvm.FP.Core.DInt (q.getD j 0 : Nat) (A.getD j 0) := h.2.2.2.2.1
theorem Inv.bd {N B n : Nat} {q T : List Nat} {A : List UInt64} {H : List Nat} {S : List Int32} (h : Inv N B n q T A H S) : ∀ j, q.getD j 0 ≤ B := h.2.2.2.2.2.1
theorem Inv.pm {N B n : Nat} {q T : List Nat} {A : List UInt64} {H : List Nat} {S : List Int32} (h : Inv N B n q T A H S) : (H.take n).Perm T := h.2.2.2.2.2.2
theorem Inv.mk {N B n : Nat} {q T : List Nat} {A : List UInt64} {H : List Nat} {S : List Int32} (h0 : A.length = N) (h1 : q.length = N) (h2 : WF N n H S) (h3 : Ord' A n H) (h4 : ∀ j, Jvm.FP.Core.DInt (q.getD j 0 : Nat) (A.getD j 0)) (h5 : ∀ j, q.getD j 0 ≤ B) (h6 : (H.take n).Perm T) : Inv N B n q T A H S := ⟨h0, h1, h2, h3, h4, h5, h6⟩
theorem inv_nums {N B n : Nat} {q T : List Nat} {A : List UInt64} {H : List Nat} {S : List Int32} (h : Inv N B n q T A H S) : Nums A := fun j => num_int (h.di j)
theorem inv_len {N B n : Nat} {q T : List Nat} {A : List UInt64} {H : List Nat} {S : List Int32} (h : Inv N B n q T A H S) : T.length = n := by
  have := h.pm.length_eq
  rw [List.length_take, h.wf.1] at this
  have := h.wf.2.2.1; omega
theorem memTake {H : List Nat} {n x : Nat} (hn : n ≤ H.length) : x ∈ H.take n ↔ ∃ i, i < n ∧ H.getD i 0 = x := by
  rw [List.mem_iff_getElem]
  constructor
  · rintro ⟨i, hi, e⟩
    rw [List.length_take] at hi
    refine ⟨i, by omega, ?_⟩
    rw [gi H i 0 (by omega), ← e, List.getElem_take]
  · rintro ⟨i, hi, e⟩
    refine ⟨i, by rw [List.length_take]; omega, ?_⟩
    rw [List.getElem_take, ← e, gi H i 0 (by omega)]
theorem nodupTake {N n : Nat} {H : List Nat} {S : List Int32} (N9 : N < 100) (h : WF N n H S) : (H.take n).Nodup := by
  obtain ⟨hH, hS, hn, hB, hPS, hAB⟩ := h
  rw [List.nodup_iff_pairwise_ne, List.pairwise_iff_getElem]
  intro i j hi hj hij e
  rw [List.length_take] at hi hj
  rw [List.getElem_take, List.getElem_take, ← gi H i 0 (by omega), ← gi H j 0 (by omega)] at e
  have := hPS.inj (by omega) (by omega) (by omega) e
  omega
theorem inv_nodup {N B n : Nat} {q T : List Nat} {A : List UInt64} {H : List Nat} {S : List Int32} (N9 : N < 100) (h : Inv N B n q T A H S) : T.Nodup := h.pm.nodup_iff.mp (nodupTake N9 h.wf)
theorem zv_big : ((1001 : Int) * (Jvm.FP.Core.one64 : Int)) ≤ kv 6103021453049119613 := by decide +kernel
theorem num_big : Num 6103021453049119613 := by unfold Num; decide +kernel
theorem bump_di {q : List Nat} {A : List UInt64} {c : Nat} (hd : Jvm.FP.Core.DInt (q.getD c 0 : Nat) (A.getD c 0)) (hb : q.getD c 0 ≤ 1000) :
    Jvm.FP.Core.DInt (q.getD c 0 + 1 : Nat) (bumpA A c) ∧ Jvm.Free.Fl.NoNaN64 (bumpA A c) ∧ ¬ FP.dcmp (bumpA A c) 6103021453049119613 = some .gt := by
  have d1 : Jvm.FP.Core.DInt (q.getD c 0 + 1 : Nat) (bumpA A c) := by
    have := Jvm.FP.Core.dadd_int hd Jvm.FP.Core.dint_one (by omega)
    exact_mod_cast this
  refine ⟨d1, Jvm.Free.Fl.val64_no.mpr (Jvm.FP.Core.DInt_ne_nan d1), fun g => ?_⟩
  have g1 := (cmp_gt (num_int d1) num_big).mp g
  rw [kv_int d1] at g1
  have hp : (0 : Int) < (Jvm.FP.Core.one64 : Int) := by have := Jvm.FP.Core.one64_pos; omega
  have g2 : ((q.getD c 0 + 1 : Nat) : Int) * (Jvm.FP.Core.one64 : Int) ≤ 1001 * (Jvm.FP.Core.one64 : Int) := Int.mul_le_mul_of_nonneg_right (by omega) (Int.le_of_lt hp)
  have := zv_big
  omega
theorem inv_kv {N B n : Nat} {q T : List Nat} {A : List UInt64} {H : List Nat} {S : List Int32} (h : Inv N B n q T A H S) (x y : Nat) : κa A x ≤ κa A y ↔ q.getD x 0 ≤ q.getD y 0 := by
  unfold κa
  rw [kv_int (h.di x), kv_int (h.di y)]
  have hp : (0 : Int) < (Jvm.FP.Core.one64 : Int) := by have := Jvm.FP.Core.one64_pos; omega
  constructor
  · intro g; have := Int.le_of_mul_le_mul_right g hp; omega
  · intro g; exact Int.mul_le_mul_of_nonneg_right (by omega) (Int.le_of_lt hp)
section
variable {N B n c : Nat} {q T : List Nat} {A : List UInt64} {H : List Nat} {S : List Int32}
theorem inv_set (h : Inv N B n q T A H S) (B9 : B ≤ 1000) (hc : c < N) :
    (∀ j, Jvm.FP.Core.DInt ((q.set c (q.getD c 0 + 1)).getD j 0 : Nat) ((A.set c (bumpA A c)).getD j 0)) ∧ (∀ j, (q.set c (q.getD c 0 + 1)).getD j 0 ≤ B + 1) := by
  have hb := h.bd c
  refine ⟨fun j => ?_, fun j => ?_⟩
  · rw [gs (by rw [h.lq]; exact hc), gs (by rw [h.lA]; exact hc)]
    split
    · exact (bump_di (h.di c) (by omega)).1
    · exact h.di j
  · rw [gs (by rw [h.lq]; exact hc)]
    split
    · omega
    · have := h.bd j; omega
theorem inv_bumpN (N9 : N < 100) (B9 : B ≤ 1000) (h : Inv N B n q T A H S) (hc : c < N) (ht : c ∉ T) (hn : n < N) :
    S.getD c 0 = -1 ∧ Jvm.Free.Fl.NoNaN64 (bumpA A c) ∧ ¬ FP.dcmp (bumpA A c) 6103021453049119613 = some .gt ∧
    Inv N (B + 1) (n + 1) (q.set c (q.getD c 0 + 1)) (c :: T) (A.set c (bumpA A c)) (pushB (A.set c (bumpA A c)) c H S n).1 (pushB (A.set c (bumpA A c)) c H S n).2 := by
  have hno : ∀ i, i < n → H.getD i 0 ≠ c := fun i hi e => ht (h.pm.mem_iff.mp ((memTake (by rw [h.wf.1]; omega)).mpr ⟨i, hi, e⟩))
  have hs := h.wf.2.2.2.2.2 c hc hno
  have hb := h.bd c
  obtain ⟨d1, d2, d3⟩ := bump_di (h.di c) (by omega)
  obtain ⟨e1, e2⟩ := inv_set h B9 hc
  have hA' : Nums (A.set c (bumpA A c)) := fun j => num_int (e1 j)
  have o' : Ord' (A.set c (bumpA A c)) n H := fun i h0 hi => by
    unfold κa
    rw [gs (by rw [h.lA]; exact hc), gs (by rw [h.lA]; exact hc), if_neg (hno i hi), if_neg (hno _ (by omega))]
    exact h.od i h0 hi
  obtain ⟨p1, p2, p3⟩ := push_spec N9 hA' h.wf o' hn hc hs
  exact ⟨hs, d2, d3, Inv.mk (by rw [List.length_set]; exact h.lA) (by rw [List.length_set]; exact h.lq) p1 p2 e1 e2 (p3.trans (h.pm.cons c))⟩
theorem inv_bumpU (N9 : N < 100) (B9 : B ≤ 1000) (h : Inv N B n q T A H S) (ht : c ∈ T) :
    c < N ∧ Jvm.Free.Fl.NoNaN64 (bumpA A c) ∧ (¬ FP.dcmp (bumpA A c) 6103021453049119613 = some .gt) ∧ ∃ i, i < N ∧ S.getD c 0 = Int32.ofNat i ∧
    Inv N (B + 1) n (q.set c (q.getD c 0 + 1)) T (A.set c (bumpA A c)) (upB (A.set c (bumpA A c)) (H.getD i 0) H S i).1 (upB (A.set c (bumpA A c)) (H.getD i 0) H S i).2 := by
  obtain ⟨i, hi, e⟩ := (memTake (by rw [h.wf.1]; exact h.wf.2.2.1)).mp (h.pm.mem_iff.mpr ht)
  have hc : c < N := e ▸ h.wf.2.2.2.1 i
  have hb := h.bd c
  obtain ⟨d1, d2, d3⟩ := bump_di (h.di c) (by omega)
  obtain ⟨e1, e2⟩ := inv_set h B9 hc
  have hg : kv (A.getD c 0) ≤ kv (bumpA A c) := by
    rw [kv_int (h.di c), kv_int d1]
    have hp : (0 : Int) < (Jvm.FP.Core.one64 : Int) := by have := Jvm.FP.Core.one64_pos; omega
    exact Int.mul_le_mul_of_nonneg_right (by omega) (Int.le_of_lt hp)
  obtain ⟨p1, p2, p3⟩ := rise_spec N9 (inv_nums h) (num_int d1) h.wf h.od (by rw [h.lA]; exact hc) hi e hg
  refine ⟨hc, d2, d3, i, by have := h.wf.2.2.1; omega, by rw [← e]; exact h.wf.2.2.2.2.1 i hi, Inv.mk (by rw [List.length_set]; exact h.lA) (by rw [List.length_set]; exact h.lq) p1 p2 e1 e2 (p3.trans h.pm)⟩
theorem inv_pop (N9 : N < 100) (h : Inv N B n q T A H S) (h0 : 0 < n) :
    H.getD 0 0 < N ∧ H.getD 0 0 ∈ T ∧ (∀ x ∈ T, q.getD x 0 ≤ q.getD (H.getD 0 0) 0) ∧ Inv N B (n - 1) q (T.erase (H.getD 0 0)) A (popB A H S n).1 (popB A H S n).2 := by
  obtain ⟨p1, p2, p3, p4⟩ := pop_spec N9 (inv_nums h) h.wf h.od h0
  have hm : H.getD 0 0 ∈ T := h.pm.mem_iff.mp ((memTake (by rw [h.wf.1]; exact h.wf.2.2.1)).mpr ⟨0, h0, rfl⟩)
  refine ⟨h.wf.2.2.2.1 0, hm, fun x hx => (inv_kv h x _).mp (p4 x (h.pm.mem_iff.mpr hx)), Inv.mk h.lA h.lq p1 p2 h.di h.bd ?_⟩
  have := (p3.symm.trans h.pm).erase (H.getD 0 0)
  rw [List.erase_cons_head] at this
  exact this
theorem inv_start {N : Nat} (N0 : 0 < N) : Inv N 0 0 (List.replicate N 0) [] (List.replicate N 0) (List.replicate N 0) (List.replicate N (-1)) := by
  have r0 : ∀ {α : Type} (x : α) (j : Nat), (List.replicate N x).getD j x = x := fun x j => by
    rw [List.getD_eq_getElem?_getD, List.getElem?_replicate]; split <;> rfl
  refine Inv.mk (List.length_replicate ..) (List.length_replicate ..) ⟨List.length_replicate .., List.length_replicate .., Nat.zero_le _, fun j => by rw [r0]; exact N0, fun i hi => absurd hi (Nat.not_lt_zero _), fun c hc _ => ?_⟩ (fun i _ hi => absurd hi (Nat.not_lt_zero _)) (fun j => ?_) (fun j => by rw [r0]; exact Nat.le_refl _) (by simp)
  · rw [List.getD_eq_getElem?_getD, List.getElem?_replicate, if_pos hc]; rfl
  · rw [r0, r0, show (0 : UInt64) = Jvm.FP.Core.i2d 0 by decide +kernel]; exact Jvm.FP.Core.i2d_int 0
end
end LawsB

set_option maxRecDepth 65536 in
set_option maxHeartbeats 40000000 in
theorem c_bumpN (l : Launch) (Z : State) (a0 : Array Value) (hw : ∀ d ∈ tables_1, d.before a0 Z = true) (ws : List Jvm.Cond) (b ka ha sa : Addr) (N n : Nat) (g : UInt64) (Al : List UInt64) (Hl : List Nat) (Sl : List Int32) (ch : Nat) (h0 : Heap) (n0 : Nat) (Z0 : n0 ≤ h0.size) (hA : Al.length = N) (hH : Hl.length = N) (hS : Sl.length = N) (N0 : 0 < N) (N9 : N < 100) (hB : Bd N Hl) (hn : n < N) (hch : ch < N) (hnn : Jvm.Free.Fl.NoNaN64 (FP.dadd (Al.getD ch 0) g)) (hbg : ¬ FP.dcmp (FP.dadd (Al.getD ch 0) g) 6103021453049119613 = some .gt) (hsl : Sl.getD ch 0 = -1) (E : Exa Z h0 b "com/example/sightline/sightline/checker/ByActivity") (F_act : Fld Z h0 b "com/example/sightline/sightline/checker/ByActivity" "activity" "[D" (.ref ka)) (F_heap : Fld Z h0 b "com/example/sightline/sightline/checker/ByActivity" "heap" "[I" (.ref ha)) (F_slot : Fld Z h0 b "com/example/sightline/sightline/checker/ByActivity" "slot" "[I" (.ref sa)) (F_count : Fld Z h0 b "com/example/sightline/sightline/checker/ByActivity" "count" "I" (.int (Int32.ofNat n))) (F_gain : Fld Z h0 b "com/example/sightline/sightline/checker/ByActivity" "gain" "D" (.double g)) (F_choices : Fld Z h0 b "com/example/sightline/sightline/checker/ByActivity" "choices" "I" (.int (Int32.ofNat N))) (VA : DV Z h0 ka Al) (VH : HV Z h0 ha Hl) (VS : IV Z h0 sa Sl) (ne_ka_b : ka ≠ b) (ne_ha_b : ha ≠ b) (ne_sa_b : sa ≠ b) (ne_ha_ka : ha ≠ ka) (ne_sa_ka : sa ≠ ka) (ne_sa_ha : sa ≠ ha) (ge_b : n0 ≤ b) (ge_ka : n0 ≤ ka) (ge_ha : n0 ≤ ha) (ge_sa : n0 ≤ sa) :
    Ctr l Z (⟨"com/example/sightline/sightline/checker/ByActivity", "bump", "(I)V"⟩ : MethodName) prog_2_method_2_code 2 none ws ({ frames := 3, cells := 0, slots := 0, locals := 41 } : Room) n0 #[(.ref b), (.int (Int32.ofNat ch))] h0 (fun v h => v = none ∧ Keep h0 h [b, ka, ha, sa] ∧ Exa Z h b "com/example/sightline/sightline/checker/ByActivity" ∧ Fld Z h b "com/example/sightline/sightline/checker/ByActivity" "activity" "[D" (.ref ka) ∧ Fld Z h b "com/example/sightline/sightline/checker/ByActivity" "heap" "[I" (.ref ha) ∧ Fld Z h b "com/example/sightline/sightline/checker/ByActivity" "slot" "[I" (.ref sa) ∧ Fld Z h b "com/example/sightline/sightline/checker/ByActivity" "count" "I" (.int (Int32.ofNat (n + 1))) ∧ Fld Z h b "com/example/sightline/sightline/checker/ByActivity" "gain" "D" (.double g) ∧ Fld Z h b "com/example/sightline/sightline/checker/ByActivity" "choices" "I" (.int (Int32.ofNat N)) ∧ DV Z h ka (Al.set ch (FP.dadd (Al.getD ch 0) g)) ∧ HV Z h ha (pushB (Al.set ch (FP.dadd (Al.getD ch 0) g)) ch Hl Sl n).1 ∧ IV Z h sa (pushB (Al.set ch (FP.dadd (Al.getD ch 0) g)) ch Hl Sl n).2) := by
  refine ctr (own := "com/example/sightline/sightline/checker/ByActivity") (nm := "bump") rfl rfl (Ls := #[.val (.ref b), .val (.int (Int32.ofNat ch))]) (plainFor_of_name pn0) (fun m => by first | (simp [entryFrame, mkF, argsToLocals, Value.category]; done) | rfl) ?_
  intro p e s m below meth c K eh
  have P0 := Keep.refl h0 [b, ka, ha, sa]
  refine Jvm.OwnWp.aloadN K d_prog_2_method_2_0 rfl rfl (pc' := 1) rfl ?_
  refine Jvm.OwnWp.getf K (wd23 hw) Via.refl F_act d_prog_2_method_2_1 (pc' := 4) rfl ?_
  refine nonnullY K d_prog_2_method_2_4 (pc' := 45) (by decide) (by decide) ?_
  refine Jvm.OwnWp.aloadN K d_prog_2_method_2_45 rfl rfl (pc' := 46) rfl ?_
  refine Jvm.OwnWp.getf K (wd23 hw) Via.refl F_act d_prog_2_method_2_46 (pc' := 49) rfl ?_
  refine Jvm.OwnWp.iloadN K d_prog_2_method_2_49 rfl (pc' := 50) rfl ?_
  refine Jvm.OwnWp.dup2 K d_prog_2_method_2_50 rfl rfl (pc' := 51) rfl ?_
  refine daload K (i := ch) VA (o_int (by omega)) (mapAt (getDAt (d := 0) (by omega))) d_prog_2_method_2_51 (pc' := 52) rfl ?_
  refine Jvm.OwnWp.aloadN K d_prog_2_method_2_52 rfl rfl (pc' := 53) rfl ?_
  refine Jvm.OwnWp.getf K (wd10 hw) Via.refl F_gain d_prog_2_method_2_53 (pc' := 56) rfl ?_
  refine Jvm.OwnWp.dadd K d_prog_2_method_2_56 hnn (pc' := 57) rfl ?_
  refine dastore K (i := ch) VA (o_int (by omega)) (mapLt (by omega)) ge_ka d_prog_2_method_2_57 (pc' := 58) rfl ?_
  intro h20 W20
  have F20_activity_b := (Fld.other W20 F_act (Or.inl (Ne.symm ne_ka_b)))
  have F20_heap_b := (Fld.other W20 F_heap (Or.inl (Ne.symm ne_ka_b)))
  have F20_slot_b := (Fld.other W20 F_slot (Or.inl (Ne.symm ne_ka_b)))
  have F20_count_b := (Fld.other W20 F_count (Or.inl (Ne.symm ne_ka_b)))
  have F20_gain_b := (Fld.other W20 F_gain (Or.inl (Ne.symm ne_ka_b)))
  have F20_choices_b := (Fld.other W20 F_choices (Or.inl (Ne.symm ne_ka_b)))
  have X20_b := (Exa.wr W20 E)
  have V20_ha := (VH.other W20 ne_ha_ka)
  have V20_sa := (VS.other W20 ne_sa_ka)
  have P20 := (P0.wr W20 (Or.inl (List.mem_of_getElem? (i := 1) rfl)))
  have V20_ka := VA.set W20
  refine Jvm.OwnWp.aloadN K d_prog_2_method_2_58 rfl rfl (pc' := 59) rfl ?_
  refine Jvm.OwnWp.getf K (wd23 hw) Via.refl F20_activity_b d_prog_2_method_2_59 (pc' := 62) rfl ?_
  refine Jvm.OwnWp.iloadN K d_prog_2_method_2_62 rfl (pc' := 63) rfl ?_
  refine daload K (i := ch) V20_ka (o_int (by omega)) (mapAt (by rw [List.getElem?_set_self (by omega)])) d_prog_2_method_2_63 (pc' := 64) rfl ?_
  refine Jvm.OwnWp.ldc2D K (wd35 hw) d_prog_2_method_2_64 (pc' := 67) rfl ?_
  refine Jvm.OwnWp.dcmp K d_prog_2_method_2_67 (pc' := 68) rfl ?_
  refine ifY K d_prog_2_method_2_68 (dd_l_le_t hbg) (pc' := 75) (by decide) (by decide) ?_
  refine Jvm.OwnWp.aloadN K d_prog_2_method_2_75 rfl rfl (pc' := 76) rfl ?_
  refine Jvm.OwnWp.getf K (wd29 hw) Via.refl F20_slot_b d_prog_2_method_2_76 (pc' := 79) rfl ?_
  refine Jvm.OwnWp.iloadN K d_prog_2_method_2_79 rfl (pc' := 80) rfl ?_
  refine iaload K (i := ch) V20_sa (o_int (by omega)) (mapAt (by rw [getDAt (d := 0) (by omega), hsl])) d_prog_2_method_2_80 (pc' := 81) rfl ?_
  refine Jvm.OwnWp.iconst K (-1 : Int32) d_prog_2_method_2_81 (by decide) (pc' := 82) rfl ?_
  refine icN K d_prog_2_method_2_82 (by decide) (pc' := 85) rfl ?_
  refine Jvm.OwnWp.aloadN K d_prog_2_method_2_85 rfl rfl (pc' := 86) rfl ?_
  refine Jvm.OwnWp.iloadN K d_prog_2_method_2_86 rfl (pc' := 87) rfl ?_
  refine callVirt K (y := (⟨"com/example/sightline/sightline/checker/ByActivity", "push", "(I)V"⟩ : MethodName)) (b := b) (argsL := [(.int (Int32.ofNat ch))]) (S := []) (wd36 hw) (wd37 hw) (wd39 hw) (wd38 hw) (wd3 hw) (wd40 hw) (by decide) X20_b (c_push l Z a0 hw [] b ka ha sa N n g (Al.set ch (FP.dadd (Al.getD ch 0) g)) Hl Sl ch h20 n0 (Nat.le_trans Z0 P20.1) (by rw [List.length_set]; exact hA) hH hS N0 N9 hB (by omega) hch X20_b F20_activity_b F20_heap_b F20_slot_b F20_count_b F20_gain_b F20_choices_b V20_ka V20_ha V20_sa ne_ka_b ne_ha_b ne_sa_b ne_ha_ka ne_sa_ka ne_sa_ha ge_b ge_ka ge_ha ge_sa) (lenOf pd1 rfl) d_prog_2_method_2_87 rfl (Nat.le_of_ble_eq_true rfl) (Nat.le_of_ble_eq_true rfl) (Nat.le_of_ble_eq_true rfl) (Nat.le_of_ble_eq_true rfl) rfl (pc' := 90) rfl ?_
  rintro v21 h21 ⟨rfl, K21, Q21_E, Q21_F_act, Q21_F_heap, Q21_F_slot, Q21_F_count, Q21_F_gain, Q21_F_choices, Q21_VA, Q21_VH, Q21_VS⟩
  have X21_b := (Exa.keep X20_b K21)
  have V21_ka := (V20_ka.keep K21 (ninS ne_ka_b (ninS (Ne.symm ne_ha_ka) (ninS (Ne.symm ne_sa_ka) (nin0)))))
  have P21 := (P20.trans K21 (allS (Or.inl (List.mem_of_getElem? (i := 0) rfl)) (allS (Or.inl (List.mem_of_getElem? (i := 2) rfl)) (allS (Or.inl (List.mem_of_getElem? (i := 3) rfl)) (all0)))))
  show Go _ _ _ _ _ _ _ _ _ _ _ h21 0 0 (mkF m 90 #[.val (.ref b), .val (.int (Int32.ofNat ch))] []) _
  refine goto' K d_prog_2_method_2_90 (pc' := 103) (by decide) (by decide) ?_
  refine retV K rfl d_prog_2_method_2_103 (Nat.le_of_ble_eq_true rfl) (Nat.le_of_ble_eq_true rfl) ?_
  exact ⟨rfl, P21, Q21_E, Q21_F_act, Q21_F_heap, Q21_F_slot, Q21_F_count, Q21_F_gain, Q21_F_choices, Q21_VA, Q21_VH, Q21_VS⟩
set_option maxRecDepth 65536 in
set_option maxHeartbeats 40000000 in
theorem c_bumpU (l : Launch) (Z : State) (a0 : Array Value) (hw : ∀ d ∈ tables_1, d.before a0 Z = true) (ws : List Jvm.Cond) (b ka ha sa : Addr) (N n : Nat) (g : UInt64) (Al : List UInt64) (Hl : List Nat) (Sl : List Int32) (ch i : Nat) (h0 : Heap) (n0 : Nat) (Z0 : n0 ≤ h0.size) (hA : Al.length = N) (hH : Hl.length = N) (hS : Sl.length = N) (N0 : 0 < N) (N9 : N < 100) (hB : Bd N Hl) (hi : i < N) (hch : ch < N) (hnn : Jvm.Free.Fl.NoNaN64 (FP.dadd (Al.getD ch 0) g)) (hbg : ¬ FP.dcmp (FP.dadd (Al.getD ch 0) g) 6103021453049119613 = some .gt) (hsl : Sl.getD ch 0 = Int32.ofNat i) (E : Exa Z h0 b "com/example/sightline/sightline/checker/ByActivity") (F_act : Fld Z h0 b "com/example/sightline/sightline/checker/ByActivity" "activity" "[D" (.ref ka)) (F_heap : Fld Z h0 b "com/example/sightline/sightline/checker/ByActivity" "heap" "[I" (.ref ha)) (F_slot : Fld Z h0 b "com/example/sightline/sightline/checker/ByActivity" "slot" "[I" (.ref sa)) (F_count : Fld Z h0 b "com/example/sightline/sightline/checker/ByActivity" "count" "I" (.int (Int32.ofNat n))) (F_gain : Fld Z h0 b "com/example/sightline/sightline/checker/ByActivity" "gain" "D" (.double g)) (F_choices : Fld Z h0 b "com/example/sightline/sightline/checker/ByActivity" "choices" "I" (.int (Int32.ofNat N))) (VA : DV Z h0 ka Al) (VH : HV Z h0 ha Hl) (VS : IV Z h0 sa Sl) (ne_ka_b : ka ≠ b) (ne_ha_b : ha ≠ b) (ne_sa_b : sa ≠ b) (ne_ha_ka : ha ≠ ka) (ne_sa_ka : sa ≠ ka) (ne_sa_ha : sa ≠ ha) (ge_b : n0 ≤ b) (ge_ka : n0 ≤ ka) (ge_ha : n0 ≤ ha) (ge_sa : n0 ≤ sa) :
    Ctr l Z (⟨"com/example/sightline/sightline/checker/ByActivity", "bump", "(I)V"⟩ : MethodName) prog_2_method_2_code 2 none ws ({ frames := 2, cells := 0, slots := 0, locals := 28 } : Room) n0 #[(.ref b), (.int (Int32.ofNat ch))] h0 (fun v h => v = none ∧ Keep h0 h [b, ka, ha, sa] ∧ Exa Z h b "com/example/sightline/sightline/checker/ByActivity" ∧ Fld Z h b "com/example/sightline/sightline/checker/ByActivity" "activity" "[D" (.ref ka) ∧ Fld Z h b "com/example/sightline/sightline/checker/ByActivity" "heap" "[I" (.ref ha) ∧ Fld Z h b "com/example/sightline/sightline/checker/ByActivity" "slot" "[I" (.ref sa) ∧ Fld Z h b "com/example/sightline/sightline/checker/ByActivity" "count" "I" (.int (Int32.ofNat n)) ∧ Fld Z h b "com/example/sightline/sightline/checker/ByActivity" "gain" "D" (.double g) ∧ Fld Z h b "com/example/sightline/sightline/checker/ByActivity" "choices" "I" (.int (Int32.ofNat N)) ∧ DV Z h ka (Al.set ch (FP.dadd (Al.getD ch 0) g)) ∧ HV Z h ha (upB (Al.set ch (FP.dadd (Al.getD ch 0) g)) (Hl.getD i 0) Hl Sl i).1 ∧ IV Z h sa (upB (Al.set ch (FP.dadd (Al.getD ch 0) g)) (Hl.getD i 0) Hl Sl i).2) := by
  refine ctr (own := "com/example/sightline/sightline/checker/ByActivity") (nm := "bump") rfl rfl (Ls := #[.val (.ref b), .val (.int (Int32.ofNat ch))]) (plainFor_of_name pn0) (fun m => by first | (simp [entryFrame, mkF, argsToLocals, Value.category]; done) | rfl) ?_
  intro p e s m below meth c K eh
  have P0 := Keep.refl h0 [b, ka, ha, sa]
  refine Jvm.OwnWp.aloadN K d_prog_2_method_2_0 rfl rfl (pc' := 1) rfl ?_
  refine Jvm.OwnWp.getf K (wd23 hw) Via.refl F_act d_prog_2_method_2_1 (pc' := 4) rfl ?_
  refine nonnullY K d_prog_2_method_2_4 (pc' := 45) (by decide) (by decide) ?_
  refine Jvm.OwnWp.aloadN K d_prog_2_method_2_45 rfl rfl (pc' := 46) rfl ?_
  refine Jvm.OwnWp.getf K (wd23 hw) Via.refl F_act d_prog_2_method_2_46 (pc' := 49) rfl ?_
  refine Jvm.OwnWp.iloadN K d_prog_2_method_2_49 rfl (pc' := 50) rfl ?_
  refine Jvm.OwnWp.dup2 K d_prog_2_method_2_50 rfl rfl (pc' := 51) rfl ?_
  refine daload K (i := ch) VA (o_int (by omega)) (mapAt (getDAt (d := 0) (by omega))) d_prog_2_method_2_51 (pc' := 52) rfl ?_
  refine Jvm.OwnWp.aloadN K d_prog_2_method_2_52 rfl rfl (pc' := 53) rfl ?_
  refine Jvm.OwnWp.getf K (wd10 hw) Via.refl F_gain d_prog_2_method_2_53 (pc' := 56) rfl ?_
  refine Jvm.OwnWp.dadd K d_prog_2_method_2_56 hnn (pc' := 57) rfl ?_
  refine dastore K (i := ch) VA (o_int (by omega)) (mapLt (by omega)) ge_ka d_prog_2_method_2_57 (pc' := 58) rfl ?_
  intro h22 W22
  have F22_activity_b := (Fld.other W22 F_act (Or.inl (Ne.symm ne_ka_b)))
  have F22_heap_b := (Fld.other W22 F_heap (Or.inl (Ne.symm ne_ka_b)))
  have F22_slot_b := (Fld.other W22 F_slot (Or.inl (Ne.symm ne_ka_b)))
  have F22_count_b := (Fld.other W22 F_count (Or.inl (Ne.symm ne_ka_b)))
  have F22_gain_b := (Fld.other W22 F_gain (Or.inl (Ne.symm ne_ka_b)))
  have F22_choices_b := (Fld.other W22 F_choices (Or.inl (Ne.symm ne_ka_b)))
  have X22_b := (Exa.wr W22 E)
  have V22_ha := (VH.other W22 ne_ha_ka)
  have V22_sa := (VS.other W22 ne_sa_ka)
  have P22 := (P0.wr W22 (Or.inl (List.mem_of_getElem? (i := 1) rfl)))
  have V22_ka := VA.set W22
  refine Jvm.OwnWp.aloadN K d_prog_2_method_2_58 rfl rfl (pc' := 59) rfl ?_
  refine Jvm.OwnWp.getf K (wd23 hw) Via.refl F22_activity_b d_prog_2_method_2_59 (pc' := 62) rfl ?_
  refine Jvm.OwnWp.iloadN K d_prog_2_method_2_62 rfl (pc' := 63) rfl ?_
  refine daload K (i := ch) V22_ka (o_int (by omega)) (mapAt (by rw [List.getElem?_set_self (by omega)])) d_prog_2_method_2_63 (pc' := 64) rfl ?_
  refine Jvm.OwnWp.ldc2D K (wd35 hw) d_prog_2_method_2_64 (pc' := 67) rfl ?_
  refine Jvm.OwnWp.dcmp K d_prog_2_method_2_67 (pc' := 68) rfl ?_
  refine ifY K d_prog_2_method_2_68 (dd_l_le_t hbg) (pc' := 75) (by decide) (by decide) ?_
  refine Jvm.OwnWp.aloadN K d_prog_2_method_2_75 rfl rfl (pc' := 76) rfl ?_
  refine Jvm.OwnWp.getf K (wd29 hw) Via.refl F22_slot_b d_prog_2_method_2_76 (pc' := 79) rfl ?_
  refine Jvm.OwnWp.iloadN K d_prog_2_method_2_79 rfl (pc' := 80) rfl ?_
  refine iaload K (i := ch) V22_sa (o_int (by omega)) (mapAt (by rw [getDAt (d := 0) (by omega), hsl])) d_prog_2_method_2_80 (pc' := 81) rfl ?_
  refine Jvm.OwnWp.iconst K (-1 : Int32) d_prog_2_method_2_81 (by decide) (pc' := 82) rfl ?_
  refine icY K d_prog_2_method_2_82 (XT.ii_ne_t (o_nm1 (by omega))) (pc' := 93) (by decide) (by decide) ?_
  refine Jvm.OwnWp.aloadN K d_prog_2_method_2_93 rfl rfl (pc' := 94) rfl ?_
  refine Jvm.OwnWp.aloadN K d_prog_2_method_2_94 rfl rfl (pc' := 95) rfl ?_
  refine Jvm.OwnWp.getf K (wd29 hw) Via.refl F22_slot_b d_prog_2_method_2_95 (pc' := 98) rfl ?_
  refine Jvm.OwnWp.iloadN K d_prog_2_method_2_98 rfl (pc' := 99) rfl ?_
  refine iaload K (i := ch) V22_sa (o_int (by omega)) (mapAt (by rw [getDAt (d := 0) (by omega), hsl])) d_prog_2_method_2_99 (pc' := 100) rfl ?_
  refine callPriv K (y := (⟨"com/example/sightline/sightline/checker/ByActivity", "up", "(I)V"⟩ : MethodName)) (b := b) (argsL := [(.int (Int32.ofNat i))]) (S := []) (wd47 hw) (wd48 hw) (wd49 hw) (wd2 hw) (wd3 hw) (wd50 hw) (by decide) X22_b (c_up l Z a0 hw [] b ka ha sa N i (Al.set ch (FP.dadd (Al.getD ch 0) g)) Hl Sl h22 n0 (Nat.le_trans Z0 P22.1) (by rw [List.length_set]; exact hA) hH hS N0 N9 hB hi X22_b F22_activity_b F22_heap_b F22_slot_b V22_ka V22_ha V22_sa ne_sa_ha ne_ha_ka ne_sa_ka ne_ha_b ne_sa_b ge_ha ge_sa) (lenOf pd1 rfl) d_prog_2_method_2_100 rfl (Nat.le_of_ble_eq_true rfl) (Nat.le_of_ble_eq_true rfl) (Nat.le_of_ble_eq_true rfl) (Nat.le_of_ble_eq_true rfl) rfl (pc' := 103) rfl ?_
  rintro v23 h23 ⟨rfl, K23, Q23_VH, Q23_VS⟩
  have F23_activity_b := (Fld.keep F22_activity_b K23 (ninS (Ne.symm ne_ha_b) (ninS (Ne.symm ne_sa_b) (nin0))))
  have F23_heap_b := (Fld.keep F22_heap_b K23 (ninS (Ne.symm ne_ha_b) (ninS (Ne.symm ne_sa_b) (nin0))))
  have F23_slot_b := (Fld.keep F22_slot_b K23 (ninS (Ne.symm ne_ha_b) (ninS (Ne.symm ne_sa_b) (nin0))))
  have F23_count_b := (Fld.keep F22_count_b K23 (ninS (Ne.symm ne_ha_b) (ninS (Ne.symm ne_sa_b) (nin0))))
  have F23_gain_b := (Fld.keep F22_gain_b K23 (ninS (Ne.symm ne_ha_b) (ninS (Ne.symm ne_sa_b) (nin0))))
  have F23_choices_b := (Fld.keep F22_choices_b K23 (ninS (Ne.symm ne_ha_b) (ninS (Ne.symm ne_sa_b) (nin0))))
  have X23_b := (Exa.keep X22_b K23)
  have V23_ka := (V22_ka.keep K23 (ninS (Ne.symm ne_ha_ka) (ninS (Ne.symm ne_sa_ka) (nin0))))
  have P23 := (P22.trans K23 (allS (Or.inl (List.mem_of_getElem? (i := 2) rfl)) (allS (Or.inl (List.mem_of_getElem? (i := 3) rfl)) (all0))))
  show Go _ _ _ _ _ _ _ _ _ _ _ h23 0 0 (mkF m 103 #[.val (.ref b), .val (.int (Int32.ofNat ch))] []) _
  refine retV K rfl d_prog_2_method_2_103 (Nat.le_of_ble_eq_true rfl) (Nat.le_of_ble_eq_true rfl) ?_
  exact ⟨rfl, P23, X23_b, F23_activity_b, F23_heap_b, F23_slot_b, F23_count_b, F23_gain_b, F23_choices_b, V23_ka, Q23_VH, Q23_VS⟩
set_option maxRecDepth 65536 in
set_option maxHeartbeats 40000000 in
theorem c_bump0 (l : Launch) (Z : State) (a0 : Array Value) (hw : ∀ d ∈ tables_1, d.before a0 Z = true) (ws : List Jvm.Cond) (b : Addr) (N ch : Nat) (g : UInt64) (h0 : Heap) (n0 : Nat) (Z0 : n0 ≤ h0.size) (N0 : 0 < N) (Nc : N ≤ 5) (hch : ch < N) (hnn : Jvm.Free.Fl.NoNaN64 (FP.dadd ((List.replicate N 0).getD ch 0) g)) (hbg : ¬ FP.dcmp (FP.dadd ((List.replicate N 0).getD ch 0) g) 6103021453049119613 = some .gt) (E : Exa Z h0 b "com/example/sightline/sightline/checker/ByActivity") (G3 : Fld Z h0 b "com/example/sightline/sightline/checker/ByActivity" "activity" "[D" .null) (G4 : Fld Z h0 b "com/example/sightline/sightline/checker/ByActivity" "heap" "[I" .null) (G5 : Fld Z h0 b "com/example/sightline/sightline/checker/ByActivity" "slot" "[I" .null) (G6 : Fld Z h0 b "com/example/sightline/sightline/checker/ByActivity" "count" "I" (.int (Int32.ofNat 0))) (F_gain : Fld Z h0 b "com/example/sightline/sightline/checker/ByActivity" "gain" "D" (.double g)) (F_choices : Fld Z h0 b "com/example/sightline/sightline/checker/ByActivity" "choices" "I" (.int (Int32.ofNat N))) (ge_b : n0 ≤ b) :
    Ctr l Z (⟨"com/example/sightline/sightline/checker/ByActivity", "bump", "(I)V"⟩ : MethodName) prog_2_method_2_code 2 none ws ({ frames := 3, cells := 3, slots := 15, locals := 41 } : Room) n0 #[(.ref b), (.int (Int32.ofNat ch))] h0 (fun v h => v = none ∧ Keep h0 h [b] ∧ ∃ ka ha sa : Addr, h0.size ≤ ka ∧ h0.size ≤ ha ∧ h0.size ≤ sa ∧ ha ≠ ka ∧ sa ≠ ka ∧ sa ≠ ha ∧ Exa Z h b "com/example/sightline/sightline/checker/ByActivity" ∧ Fld Z h b "com/example/sightline/sightline/checker/ByActivity" "activity" "[D" (.ref ka) ∧ Fld Z h b "com/example/sightline/sightline/checker/ByActivity" "heap" "[I" (.ref ha) ∧ Fld Z h b "com/example/sightline/sightline/checker/ByActivity" "slot" "[I" (.ref sa) ∧ Fld Z h b "com/example/sightline/sightline/checker/ByActivity" "count" "I" (.int (Int32.ofNat 1)) ∧ Fld Z h b "com/example/sightline/sightline/checker/ByActivity" "gain" "D" (.double g) ∧ Fld Z h b "com/example/sightline/sightline/checker/ByActivity" "choices" "I" (.int (Int32.ofNat N)) ∧ DV Z h ka ((List.replicate N 0).set ch (FP.dadd ((List.replicate N 0).getD ch 0) g)) ∧ HV Z h ha (pushB ((List.replicate N 0).set ch (FP.dadd ((List.replicate N 0).getD ch 0) g)) ch (List.replicate N 0) (List.replicate N (-1)) 0).1 ∧ IV Z h sa (pushB ((List.replicate N 0).set ch (FP.dadd ((List.replicate N 0).getD ch 0) g)) ch (List.replicate N 0) (List.replicate N (-1)) 0).2) := by
  refine ctr (own := "com/example/sightline/sightline/checker/ByActivity") (nm := "bump") rfl rfl (Ls := #[.val (.ref b), .val (.int (Int32.ofNat ch))]) (plainFor_of_name pn0) (fun m => by first | (simp [entryFrame, mkF, argsToLocals, Value.category]; done) | rfl) ?_
  intro p e s m below meth c K eh
  have P0 := Keep.refl h0 [b]
  have N9 : N < 100 := by omega
  refine Jvm.OwnWp.aloadN K d_prog_2_method_2_0 rfl rfl (pc' := 1) rfl ?_
  refine Jvm.OwnWp.getf K (wd23 hw) Via.refl G3 d_prog_2_method_2_1 (pc' := 4) rfl ?_
  refine nonnullN K d_prog_2_method_2_4 (pc' := 7) rfl ?_
  refine Jvm.OwnWp.aloadN K d_prog_2_method_2_7 rfl rfl (pc' := 8) rfl ?_
  refine Jvm.OwnWp.aloadN K d_prog_2_method_2_8 rfl rfl (pc' := 9) rfl ?_
  refine Jvm.OwnWp.getf K (wd12 hw) Via.refl F_choices d_prog_2_method_2_9 (pc' := 12) rfl ?_
  refine newArrC K (aty := ArrayType.double) (N := N) (cap := 5) (wd25 hw) (o_int (by omega)) Nc (by decide) d_prog_2_method_2_12 (Nat.le_of_ble_eq_true rfl) (Nat.le_of_ble_eq_true rfl) (pc' := 14) rfl ?_
  intro h24 ka g24 E24 A24
  have ne_b_ka : b ≠ ka := Nat.ne_of_lt (Nat.lt_of_lt_of_eq (Exa.lt E) g24.symm)
  have lt_ka : h0.size ≤ ka := Nat.le_trans P0.1 (Nat.le_of_eq g24.symm)
  have ge_ka : n0 ≤ ka := Nat.le_trans Z0 lt_ka
  have F24_activity_b := (Fld.ext E24 G3)
  have F24_heap_b := (Fld.ext E24 G4)
  have F24_slot_b := (Fld.ext E24 G5)
  have F24_count_b := (Fld.ext E24 G6)
  have F24_gain_b := (Fld.ext E24 F_gain)
  have F24_choices_b := (Fld.ext E24 F_choices)
  have X24_b := (Exa.ext E24 E)
  have P24 := (P0.ext E24)
  have A24 := DV.new A24
  refine putf K (wd23 hw) Via.refl F24_activity_b X24_b (Or.inl (wd24 hw)) (wd2 hw) (ty := (.array .double)) (by decide) rfl rfl ge_b d_prog_2_method_2_14 (pc' := 17) rfl ?_
  intro h25 W25
  have F25_heap_b := (Fld.other W25 F24_heap_b (Or.inr (sn_ByActivity_heap_activity hw)))
  have F25_slot_b := (Fld.other W25 F24_slot_b (Or.inr (sn_ByActivity_slot_activity hw)))
  have F25_count_b := (Fld.other W25 F24_count_b (Or.inr (sn_ByActivity_count_activity hw)))
  have F25_gain_b := (Fld.other W25 F24_gain_b (Or.inr (sn_ByActivity_gain_activity hw)))
  have F25_choices_b := (Fld.other W25 F24_choices_b (Or.inr (sn_ByActivity_choices_activity hw)))
  have X25_b := (Exa.wr W25 X24_b)
  have V25_ka := (A24.other W25 (Ne.symm ne_b_ka))
  have P25 := (P24.wr W25 (Or.inl (List.mem_of_getElem? (i := 0) rfl)))
  have F25_activity_b := Fld.same W25 F24_activity_b
  refine Jvm.OwnWp.aloadN K d_prog_2_method_2_17 rfl rfl (pc' := 18) rfl ?_
  refine Jvm.OwnWp.aloadN K d_prog_2_method_2_18 rfl rfl (pc' := 19) rfl ?_
  refine Jvm.OwnWp.getf K (wd12 hw) Via.refl F25_choices_b d_prog_2_method_2_19 (pc' := 22) rfl ?_
  refine newArrC K (aty := ArrayType.int) (N := N) (cap := 5) (wd26 hw) (o_int (by omega)) Nc (by decide) d_prog_2_method_2_22 (Nat.le_of_ble_eq_true rfl) (Nat.le_of_ble_eq_true rfl) (pc' := 24) rfl ?_
  intro h26 ha g26 E26 A26
  have ne_b_ha : b ≠ ha := Nat.ne_of_lt (Nat.lt_of_lt_of_eq (Exa.lt X25_b) g26.symm)
  have ne_ka_ha : ka ≠ ha := Nat.ne_of_lt (Nat.lt_of_lt_of_eq (V25_ka.lt) g26.symm)
  have lt_ha : h0.size ≤ ha := Nat.le_trans P25.1 (Nat.le_of_eq g26.symm)
  have ge_ha : n0 ≤ ha := Nat.le_trans Z0 lt_ha
  have F26_activity_b := (Fld.ext E26 F25_activity_b)
  have F26_heap_b := (Fld.ext E26 F25_heap_b)
  have F26_slot_b := (Fld.ext E26 F25_slot_b)
  have F26_count_b := (Fld.ext E26 F25_count_b)
  have F26_gain_b := (Fld.ext E26 F25_gain_b)
  have F26_choices_b := (Fld.ext E26 F25_choices_b)
  have X26_b := (Exa.ext E26 X25_b)
  have V26_ka := (V25_ka.ext E26)
  have P26 := (P25.ext E26)
  have A26 := HV.new A26
  refine putf K (wd27 hw) Via.refl F26_heap_b X26_b (Or.inl (wd28 hw)) (wd2 hw) (ty := (.array .int)) (by decide) rfl rfl ge_b d_prog_2_method_2_24 (pc' := 27) rfl ?_
  intro h27 W27
  have F27_activity_b := (Fld.other W27 F26_activity_b (Or.inr (sn_ByActivity_activity_heap hw)))
  have F27_slot_b := (Fld.other W27 F26_slot_b (Or.inr (sn_ByActivity_slot_heap hw)))
  have F27_count_b := (Fld.other W27 F26_count_b (Or.inr (sn_ByActivity_count_heap hw)))
  have F27_gain_b := (Fld.other W27 F26_gain_b (Or.inr (sn_ByActivity_gain_heap hw)))
  have F27_choices_b := (Fld.other W27 F26_choices_b (Or.inr (sn_ByActivity_choices_heap hw)))
  have X27_b := (Exa.wr W27 X26_b)
  have V27_ka := (V26_ka.other W27 (Ne.symm ne_b_ka))
  have V27_ha := (A26.other W27 (Ne.symm ne_b_ha))
  have P27 := (P26.wr W27 (Or.inl (List.mem_of_getElem? (i := 0) rfl)))
  have F27_heap_b := Fld.same W27 F26_heap_b
  refine Jvm.OwnWp.aloadN K d_prog_2_method_2_27 rfl rfl (pc' := 28) rfl ?_
  refine Jvm.OwnWp.aloadN K d_prog_2_method_2_28 rfl rfl (pc' := 29) rfl ?_
  refine Jvm.OwnWp.getf K (wd12 hw) Via.refl F27_choices_b d_prog_2_method_2_29 (pc' := 32) rfl ?_
  refine newArrC K (aty := ArrayType.int) (N := N) (cap := 5) (wd26 hw) (o_int (by omega)) Nc (by decide) d_prog_2_method_2_32 (Nat.le_of_ble_eq_true rfl) (Nat.le_of_ble_eq_true rfl) (pc' := 34) rfl ?_
  intro h28 sa g28 E28 A28
  have ne_b_sa : b ≠ sa := Nat.ne_of_lt (Nat.lt_of_lt_of_eq (Exa.lt X27_b) g28.symm)
  have ne_ka_sa : ka ≠ sa := Nat.ne_of_lt (Nat.lt_of_lt_of_eq (V27_ka.lt) g28.symm)
  have ne_ha_sa : ha ≠ sa := Nat.ne_of_lt (Nat.lt_of_lt_of_eq (V27_ha.lt) g28.symm)
  have lt_sa : h0.size ≤ sa := Nat.le_trans P27.1 (Nat.le_of_eq g28.symm)
  have ge_sa : n0 ≤ sa := Nat.le_trans Z0 lt_sa
  have F28_activity_b := (Fld.ext E28 F27_activity_b)
  have F28_heap_b := (Fld.ext E28 F27_heap_b)
  have F28_slot_b := (Fld.ext E28 F27_slot_b)
  have F28_count_b := (Fld.ext E28 F27_count_b)
  have F28_gain_b := (Fld.ext E28 F27_gain_b)
  have F28_choices_b := (Fld.ext E28 F27_choices_b)
  have X28_b := (Exa.ext E28 X27_b)
  have V28_ka := (V27_ka.ext E28)
  have V28_ha := (V27_ha.ext E28)
  have P28 := (P27.ext E28)
  have A28 := IV.new A28
  refine putf K (wd29 hw) Via.refl F28_slot_b X28_b (Or.inl (wd30 hw)) (wd2 hw) (ty := (.array .int)) (by decide) rfl rfl ge_b d_prog_2_method_2_34 (pc' := 37) rfl ?_
  intro h29 W29
  have F29_activity_b := (Fld.other W29 F28_activity_b (Or.inr (sn_ByActivity_activity_slot hw)))
  have F29_heap_b := (Fld.other W29 F28_heap_b (Or.inr (sn_ByActivity_heap_slot hw)))
  have F29_count_b := (Fld.other W29 F28_count_b (Or.inr (sn_ByActivity_count_slot hw)))
  have F29_gain_b := (Fld.other W29 F28_gain_b (Or.inr (sn_ByActivity_gain_slot hw)))
  have F29_choices_b := (Fld.other W29 F28_choices_b (Or.inr (sn_ByActivity_choices_slot hw)))
  have X29_b := (Exa.wr W29 X28_b)
  have V29_ka := (V28_ka.other W29 (Ne.symm ne_b_ka))
  have V29_ha := (V28_ha.other W29 (Ne.symm ne_b_ha))
  have V29_sa := (A28.other W29 (Ne.symm ne_b_sa))
  have P29 := (P28.wr W29 (Or.inl (List.mem_of_getElem? (i := 0) rfl)))
  have F29_slot_b := Fld.same W29 F28_slot_b
  refine Jvm.OwnWp.aloadN K d_prog_2_method_2_37 rfl rfl (pc' := 38) rfl ?_
  refine Jvm.OwnWp.getf K (wd29 hw) Via.refl F29_slot_b d_prog_2_method_2_38 (pc' := 41) rfl ?_
  refine Jvm.OwnWp.iconst K (-1 : Int32) d_prog_2_method_2_41 (by decide) (pc' := 42) rfl ?_
  refine callStatic K (y := (⟨"java/util/Arrays", "fill", "([II)V"⟩ : MethodName)) (argsL := [(.ref sa), (.int (-1 : Int32))]) (S := []) (wd31 hw) (wd32 hw) (wd33 hw) (wd34 hw) (by decide) (c_fill l Z a0 hw [] sa (-1) N (List.replicate N 0) h29 n0 (Nat.le_trans Z0 P29.1) (List.length_replicate ..) N9 V29_sa ge_sa) (lenOf pd2 rfl) d_prog_2_method_2_42 rfl (Nat.le_of_ble_eq_true rfl) (Nat.le_of_ble_eq_true rfl) (Nat.le_of_ble_eq_true rfl) (Nat.le_of_ble_eq_true rfl) rfl (pc' := 45) rfl ?_
  rintro v30 h30 ⟨rfl, K30, Q30_VS⟩
  have F30_activity_b := (Fld.keep F29_activity_b K30 (ninS ne_b_sa (nin0)))
  have F30_heap_b := (Fld.keep F29_heap_b K30 (ninS ne_b_sa (nin0)))
  have F30_slot_b := (Fld.keep F29_slot_b K30 (ninS ne_b_sa (nin0)))
  have F30_count_b := (Fld.keep F29_count_b K30 (ninS ne_b_sa (nin0)))
  have F30_gain_b := (Fld.keep F29_gain_b K30 (ninS ne_b_sa (nin0)))
  have F30_choices_b := (Fld.keep F29_choices_b K30 (ninS ne_b_sa (nin0)))
  have X30_b := (Exa.keep X29_b K30)
  have V30_ka := (V29_ka.keep K30 (ninS ne_ka_sa (nin0)))
  have V30_ha := (V29_ha.keep K30 (ninS ne_ha_sa (nin0)))
  have P30 := (P29.trans K30 (allS (Or.inr lt_sa) (all0)))
  show Go _ _ _ _ _ _ _ _ _ _ _ h30 3 15 (mkF m 45 #[.val (.ref b), .val (.int (Int32.ofNat ch))] []) _
  have hA : (List.replicate N (0 : UInt64)).length = N := List.length_replicate ..
  have hH : (List.replicate N (0 : Nat)).length = N := List.length_replicate ..
  have hS : (List.replicate N (-1 : Int32)).length = N := List.length_replicate ..
  have hB : Bd N (List.replicate N 0) := fun j => by
    rw [List.getD_eq_getElem?_getD, List.getElem?_replicate]; split <;> simpa using N0
  have hsl : (List.replicate N (-1 : Int32)).getD ch 0 = -1 := by rw [List.getD_eq_getElem?_getD, List.getElem?_replicate, if_pos hch]; rfl
  refine Jvm.OwnWp.aloadN K d_prog_2_method_2_45 rfl rfl (pc' := 46) rfl ?_
  refine Jvm.OwnWp.getf K (wd23 hw) Via.refl F30_activity_b d_prog_2_method_2_46 (pc' := 49) rfl ?_
  refine Jvm.OwnWp.iloadN K d_prog_2_method_2_49 rfl (pc' := 50) rfl ?_
  refine Jvm.OwnWp.dup2 K d_prog_2_method_2_50 rfl rfl (pc' := 51) rfl ?_
  refine daload K (i := ch) V30_ka (o_int (by omega)) (mapAt (getDAt (d := 0) (by omega))) d_prog_2_method_2_51 (pc' := 52) rfl ?_
  refine Jvm.OwnWp.aloadN K d_prog_2_method_2_52 rfl rfl (pc' := 53) rfl ?_
  refine Jvm.OwnWp.getf K (wd10 hw) Via.refl F30_gain_b d_prog_2_method_2_53 (pc' := 56) rfl ?_
  refine Jvm.OwnWp.dadd K d_prog_2_method_2_56 hnn (pc' := 57) rfl ?_
  refine dastore K (i := ch) V30_ka (o_int (by omega)) (mapLt (by omega)) ge_ka d_prog_2_method_2_57 (pc' := 58) rfl ?_
  intro h31 W31
  have F31_activity_b := (Fld.other W31 F30_activity_b (Or.inl ne_b_ka))
  have F31_heap_b := (Fld.other W31 F30_heap_b (Or.inl ne_b_ka))
  have F31_slot_b := (Fld.other W31 F30_slot_b (Or.inl ne_b_ka))
  have F31_count_b := (Fld.other W31 F30_count_b (Or.inl ne_b_ka))
  have F31_gain_b := (Fld.other W31 F30_gain_b (Or.inl ne_b_ka))
  have F31_choices_b := (Fld.other W31 F30_choices_b (Or.inl ne_b_ka))
  have X31_b := (Exa.wr W31 X30_b)
  have V31_ha := (V30_ha.other W31 (Ne.symm ne_ka_ha))
  have V31_sa := (Q30_VS.other W31 (Ne.symm ne_ka_sa))
  have P31 := (P30.wr W31 (Or.inr lt_ka))
  have V31_ka := V30_ka.set W31
  refine Jvm.OwnWp.aloadN K d_prog_2_method_2_58 rfl rfl (pc' := 59) rfl ?_
  refine Jvm.OwnWp.getf K (wd23 hw) Via.refl F31_activity_b d_prog_2_method_2_59 (pc' := 62) rfl ?_
  refine Jvm.OwnWp.iloadN K d_prog_2_method_2_62 rfl (pc' := 63) rfl ?_
  refine daload K (i := ch) V31_ka (o_int (by omega)) (mapAt (by rw [List.getElem?_set_self (by omega)])) d_prog_2_method_2_63 (pc' := 64) rfl ?_
  refine Jvm.OwnWp.ldc2D K (wd35 hw) d_prog_2_method_2_64 (pc' := 67) rfl ?_
  refine Jvm.OwnWp.dcmp K d_prog_2_method_2_67 (pc' := 68) rfl ?_
  refine ifY K d_prog_2_method_2_68 (dd_l_le_t hbg) (pc' := 75) (by decide) (by decide) ?_
  refine Jvm.OwnWp.aloadN K d_prog_2_method_2_75 rfl rfl (pc' := 76) rfl ?_
  refine Jvm.OwnWp.getf K (wd29 hw) Via.refl F31_slot_b d_prog_2_method_2_76 (pc' := 79) rfl ?_
  refine Jvm.OwnWp.iloadN K d_prog_2_method_2_79 rfl (pc' := 80) rfl ?_
  refine iaload K (i := ch) V31_sa (o_int (by omega)) (mapAt (by rw [getDAt (d := 0) (by omega), hsl])) d_prog_2_method_2_80 (pc' := 81) rfl ?_
  refine Jvm.OwnWp.iconst K (-1 : Int32) d_prog_2_method_2_81 (by decide) (pc' := 82) rfl ?_
  refine icN K d_prog_2_method_2_82 (by decide) (pc' := 85) rfl ?_
  refine Jvm.OwnWp.aloadN K d_prog_2_method_2_85 rfl rfl (pc' := 86) rfl ?_
  refine Jvm.OwnWp.iloadN K d_prog_2_method_2_86 rfl (pc' := 87) rfl ?_
  refine callVirt K (y := (⟨"com/example/sightline/sightline/checker/ByActivity", "push", "(I)V"⟩ : MethodName)) (b := b) (argsL := [(.int (Int32.ofNat ch))]) (S := []) (wd36 hw) (wd37 hw) (wd39 hw) (wd38 hw) (wd3 hw) (wd40 hw) (by decide) X31_b (c_push l Z a0 hw [] b ka ha sa N 0 g ((List.replicate N 0).set ch (FP.dadd ((List.replicate N 0).getD ch 0) g)) (List.replicate N 0) (List.replicate N (-1)) ch h31 n0 (Nat.le_trans Z0 P31.1) (by rw [List.length_set]; exact hA) hH hS N0 N9 hB (by omega) hch X31_b F31_activity_b F31_heap_b F31_slot_b F31_count_b F31_gain_b F31_choices_b V31_ka V31_ha V31_sa (Ne.symm ne_b_ka) (Ne.symm ne_b_ha) (Ne.symm ne_b_sa) (Ne.symm ne_ka_ha) (Ne.symm ne_ka_sa) (Ne.symm ne_ha_sa) ge_b ge_ka ge_ha ge_sa) (lenOf pd1 rfl) d_prog_2_method_2_87 rfl (Nat.le_of_ble_eq_true rfl) (Nat.le_of_ble_eq_true rfl) (Nat.le_of_ble_eq_true rfl) (Nat.le_of_ble_eq_true rfl) rfl (pc' := 90) rfl ?_
  rintro v32 h32 ⟨rfl, K32, Q32_E, Q32_F_act, Q32_F_heap, Q32_F_slot, Q32_F_count, Q32_F_gain, Q32_F_choices, Q32_VA, Q32_VH, Q32_VS⟩
  have X32_b := (Exa.keep X31_b K32)
  have V32_ka := (V31_ka.keep K32 (ninS (Ne.symm ne_b_ka) (ninS ne_ka_ha (ninS ne_ka_sa (nin0)))))
  have P32 := (P31.trans K32 (allS (Or.inl (List.mem_of_getElem? (i := 0) rfl)) (allS (Or.inr lt_ha) (allS (Or.inr lt_sa) (all0)))))
  show Go _ _ _ _ _ _ _ _ _ _ _ h32 3 15 (mkF m 90 #[.val (.ref b), .val (.int (Int32.ofNat ch))] []) _
  refine goto' K d_prog_2_method_2_90 (pc' := 103) (by decide) (by decide) ?_
  refine retV K rfl d_prog_2_method_2_103 (Nat.le_of_ble_eq_true rfl) (Nat.le_of_ble_eq_true rfl) ?_
  exact ⟨rfl, P32, ka, ha, sa, lt_ka, lt_ha, lt_sa, (Ne.symm ne_ka_ha), (Ne.symm ne_ka_sa), (Ne.symm ne_ha_sa), Q32_E, Q32_F_act, Q32_F_heap, Q32_F_slot, Q32_F_count, Q32_F_gain, Q32_F_choices, Q32_VA, Q32_VH, Q32_VS⟩
theorem root1 {N a : Nat} {H : List Nat} {S : List Int32} (h : WF N 1 H S) (q : (H.take 1).Perm [a]) : H.getD 0 0 = a := by
  have := q.mem_iff.mp ((memTake (n := 1) (by rw [h.1]; exact h.2.2.1)).mpr ⟨0, by decide, rfl⟩)
  simpa using this
theorem push_root {A : List UInt64} {c a : Nat} {H : List Nat} {S : List Int32} (hH : H.length = 2) (ha : H.getD 0 0 = a) :
    (pushB A c H S 1).1.getD 0 0 = if FP.dcmp (A.getD a 0) (A.getD c 0) = some .lt then c else a := by
  have e0 : (H.set 1 c).getD ((1 - 1) / 2) 0 = a := by rw [Jvm.OwnHeap.gs (by omega), if_neg (by decide)]; exact ha
  unfold pushB
  by_cases q : FP.dcmp (A.getD a 0) (A.getD c 0) = some .lt
  · rw [upB_go (by decide) (by rw [e0]; exact q), if_pos q, upB_zero (by decide), Jvm.OwnHeap.gs (by simp; omega), if_pos rfl]
  · rw [upB_stop (by decide) (by rw [e0]; exact q), if_neg q, Jvm.OwnHeap.gs (by simp; omega), if_neg (by decide)]; exact e0
theorem nums2 {x y : UInt64} (hx : Jvm.OwnHeap.Num x) (hy : Jvm.OwnHeap.Num y) : Nums [x, y] := fun j => by
  match j with
  | 0 => exact hx
  | 1 => exact hy
  | j + 2 => show Jvm.OwnHeap.Num 0; unfold Jvm.OwnHeap.Num; decide +kernel
theorem ord1 {A : List UInt64} {H : List Nat} : Ord' A 1 H := fun i h0 hi => by omega
theorem abs1 {N a c : Nat} {H : List Nat} {S : List Int32} (h : WF N 1 H S) (ha : H.getD 0 0 = a) (hc : c < N) (ne : a ≠ c) : S.getD c 0 = -1 :=
  h.2.2.2.2.2 c hc (fun i hi e => by have : i = 0 := by omega
                                     subst this; exact ne (ha.symm.trans e))
theorem own_a (x : Int32) : (x &&& 1) = 0 ∨ (x &&& 1) = 1 := by
  obtain ⟨a1, a2⟩ := c_and x 1 (by decide)
  simp only [Int32.reduceToInt] at a2
  have h : (x &&& 1).toInt = 0 ∨ (x &&& 1).toInt = 1 := by omega
  rcases h with h | h
  · exact Or.inl (Int32.toInt_inj.mp (by rw [h]; rfl))
  · exact Or.inr (Int32.toInt_inj.mp (by rw [h]; rfl))
theorem own_m (x : Int32) : (x &&& 2147483647) % 3 = 0 ∨ (x &&& 2147483647) % 3 = 1 ∨ (x &&& 2147483647) % 3 = 2 := by
  obtain ⟨b1, b2⟩ := c_and x 2147483647 (by decide)
  generalize (x &&& 2147483647) = u at *
  obtain ⟨r1, r2, -⟩ := (c_iremV u 3).1 b1 (by decide)
  simp only [Int32.reduceToInt] at r2
  have h : (u % 3).toInt = 0 ∨ (u % 3).toInt = 1 ∨ (u % 3).toInt = 2 := by omega
  rcases h with h | h | h
  · exact Or.inl (Int32.toInt_inj.mp (by rw [h]; rfl))
  · exact Or.inr (Or.inl (Int32.toInt_inj.mp (by rw [h]; rfl)))
  · exact Or.inr (Or.inr (Int32.toInt_inj.mp (by rw [h]; rfl)))
theorem own_k (x : Int32) : (x &&& 2147483647) % 5 = 0 ∨ (x &&& 2147483647) % 5 = 1 ∨ (x &&& 2147483647) % 5 = 2 ∨ (x &&& 2147483647) % 5 = 3 ∨ (x &&& 2147483647) % 5 = 4 := by
  obtain ⟨b1, b2⟩ := c_and x 2147483647 (by decide)
  generalize (x &&& 2147483647) = u at *
  obtain ⟨r1, r2, -⟩ := (c_iremV u 5).1 b1 (by decide)
  simp only [Int32.reduceToInt] at r2
  have h : (u % 5).toInt = 0 ∨ (u % 5).toInt = 1 ∨ (u % 5).toInt = 2 ∨ (u % 5).toInt = 3 ∨ (u % 5).toInt = 4 := by omega
  rcases h with h | h | h | h | h
  · exact Or.inl (Int32.toInt_inj.mp (by rw [h]; rfl))
  · exact Or.inr (Or.inl (Int32.toInt_inj.mp (by rw [h]; rfl)))
  · exact Or.inr (Or.inr (Or.inl (Int32.toInt_inj.mp (by rw [h]; rfl))))
  · exact Or.inr (Or.inr (Or.inr (Or.inl (Int32.toInt_inj.mp (by rw [h]; rfl)))))
  · exact Or.inr (Or.inr (Or.inr (Or.inr (Int32.toInt_inj.mp (by rw [h]; rfl)))))
set_option maxRecDepth 65536 in
set_option maxHeartbeats 40000000 in
theorem c_decay (l : Launch) (Z : State) (a0 : Array Value) (hw : ∀ d ∈ tables_1, d.before a0 Z = true) (ws : List Jvm.Cond) (b : Addr) (g g' : UInt64) (h0 : Heap) (n0 : Nat) (Z0 : n0 ≤ h0.size) (eg : (FP.ddiv g 4604480259023595110) = g') (nn : Jvm.Free.Fl.NoNaN64 g') (hbg : ¬ FP.dcmp g' 6103021453049119613 = some .gt) (E : Exa Z h0 b "com/example/sightline/sightline/checker/ByActivity") (F : Fld Z h0 b "com/example/sightline/sightline/checker/ByActivity" "gain" "D" (.double g)) (ge_b : n0 ≤ b) :
    Ctr l Z (⟨"com/example/sightline/sightline/checker/ByActivity", "decay", "()V"⟩ : MethodName) prog_2_method_3_code 1 none ws ({ frames := 0, cells := 0, slots := 0, locals := 0 } : Room) n0 #[(.ref b)] h0 (fun v h => v = none ∧ Keep h0 h [b] ∧ Fld Z h b "com/example/sightline/sightline/checker/ByActivity" "gain" "D" (.double g') ∧ (∀ {t : Value}, Fld Z h0 b "com/example/sightline/sightline/checker/ByActivity" "activity" "[D" t → Fld Z h b "com/example/sightline/sightline/checker/ByActivity" "activity" "[D" t) ∧ (∀ {t : Value}, Fld Z h0 b "com/example/sightline/sightline/checker/ByActivity" "heap" "[I" t → Fld Z h b "com/example/sightline/sightline/checker/ByActivity" "heap" "[I" t) ∧ (∀ {t : Value}, Fld Z h0 b "com/example/sightline/sightline/checker/ByActivity" "slot" "[I" t → Fld Z h b "com/example/sightline/sightline/checker/ByActivity" "slot" "[I" t) ∧ (∀ {t : Value}, Fld Z h0 b "com/example/sightline/sightline/checker/ByActivity" "count" "I" t → Fld Z h b "com/example/sightline/sightline/checker/ByActivity" "count" "I" t) ∧ (∀ {t : Value}, Fld Z h0 b "com/example/sightline/sightline/checker/ByActivity" "choices" "I" t → Fld Z h b "com/example/sightline/sightline/checker/ByActivity" "choices" "I" t)) := by
  refine ctr (own := "com/example/sightline/sightline/checker/ByActivity") (nm := "decay") rfl rfl (Ls := #[.val (.ref b)]) (plainFor_of_name pn0) (fun m => by first | (simp [entryFrame, mkF, argsToLocals, Value.category]; done) | rfl) ?_
  intro p e s m below meth c K eh
  have P0 := Keep.refl h0 [b]
  refine Jvm.OwnWp.aloadN K d_prog_2_method_3_0 rfl rfl (pc' := 1) rfl ?_
  refine Jvm.OwnWp.dup K d_prog_2_method_3_1 rfl (pc' := 2) rfl ?_
  refine Jvm.OwnWp.getf K (wd10 hw) Via.refl F d_prog_2_method_3_2 (pc' := 5) rfl ?_
  refine Jvm.OwnWp.ldc2D K (wd59 hw) d_prog_2_method_3_5 (pc' := 8) rfl ?_
  refine Jvm.OwnWp.ddiv K d_prog_2_method_3_8 (eg ▸ nn) (pc' := 9) rfl ?_
  rw [show FP.ddiv g 4604480259023595110 = g' from eg]
  refine putf K (wd10 hw) Via.refl F E (Or.inl (wd11 hw)) (wd2 hw) (ty := .double) (by decide) rfl rfl ge_b d_prog_2_method_3_9 (pc' := 12) rfl ?_
  intro h33 W33
  have X33_b := (Exa.wr W33 E)
  have P33 := (P0.wr W33 (Or.inl (List.mem_of_getElem? (i := 0) rfl)))
  have F33_gain_b := Fld.same W33 F
  refine Jvm.OwnWp.aloadN K d_prog_2_method_3_12 rfl rfl (pc' := 13) rfl ?_
  refine Jvm.OwnWp.getf K (wd10 hw) Via.refl F33_gain_b d_prog_2_method_3_13 (pc' := 16) rfl ?_
  refine Jvm.OwnWp.ldc2D K (wd35 hw) d_prog_2_method_3_16 (pc' := 19) rfl ?_
  refine Jvm.OwnWp.dcmp K d_prog_2_method_3_19 (pc' := 20) rfl ?_
  refine ifY K d_prog_2_method_3_20 (dd_l_le_t hbg) (pc' := 27) (by decide) (by decide) ?_
  refine retV K rfl d_prog_2_method_3_27 (Nat.le_of_ble_eq_true rfl) (Nat.le_of_ble_eq_true rfl) ?_
  exact ⟨rfl, P33, F33_gain_b, fun q => Fld.other W33 q (Or.inr (sn_ByActivity_activity_gain hw)), fun q => Fld.other W33 q (Or.inr (sn_ByActivity_heap_gain hw)), fun q => Fld.other W33 q (Or.inr (sn_ByActivity_slot_gain hw)), fun q => Fld.other W33 q (Or.inr (sn_ByActivity_count_gain hw)), fun q => Fld.other W33 q (Or.inr (sn_ByActivity_choices_gain hw))⟩
set_option maxRecDepth 65536 in
set_option maxHeartbeats 40000000 in
theorem c_dec0 (l : Launch) (Z : State) (a0 : Array Value) (hw : ∀ d ∈ tables_1, d.before a0 Z = true) (ws : List Jvm.Cond) (b ka ha sa : Addr) (h0 : Heap) (n0 : Nat) (Z0 : n0 ≤ h0.size) (E : Exa Z h0 b "com/example/sightline/sightline/checker/ByActivity") (F_act : Fld Z h0 b "com/example/sightline/sightline/checker/ByActivity" "activity" "[D" (.ref ka)) (F_heap : Fld Z h0 b "com/example/sightline/sightline/checker/ByActivity" "heap" "[I" (.ref ha)) (F_slot : Fld Z h0 b "com/example/sightline/sightline/checker/ByActivity" "slot" "[I" (.ref sa)) (F_count : Fld Z h0 b "com/example/sightline/sightline/checker/ByActivity" "count" "I" (.int (Int32.ofNat 1))) (F_gain : Fld Z h0 b "com/example/sightline/sightline/checker/ByActivity" "gain" "D" (.double 4607182418800017408)) (F_choices : Fld Z h0 b "com/example/sightline/sightline/checker/ByActivity" "choices" "I" (.int (Int32.ofNat 2))) (ge_b : n0 ≤ b) :
    Ctr l Z (⟨"com/example/sightline/sightline/checker/ByActivityDecayPinLaw", "decays", "(Lcom/example/sightline/sightline/checker/ByActivity;I)V"⟩ : MethodName) method_3_code 2 none ws ({ frames := 0, cells := 0, slots := 0, locals := 0 } : Room) n0 #[(.ref b), (.int (0 : Int32))] h0 (fun v h => v = none ∧ Keep h0 h [b] ∧ Fld Z h b "com/example/sightline/sightline/checker/ByActivity" "activity" "[D" (.ref ka) ∧ Fld Z h b "com/example/sightline/sightline/checker/ByActivity" "heap" "[I" (.ref ha) ∧ Fld Z h b "com/example/sightline/sightline/checker/ByActivity" "slot" "[I" (.ref sa) ∧ Fld Z h b "com/example/sightline/sightline/checker/ByActivity" "count" "I" (.int (Int32.ofNat 1)) ∧ Fld Z h b "com/example/sightline/sightline/checker/ByActivity" "gain" "D" (.double 4607182418800017408) ∧ Fld Z h b "com/example/sightline/sightline/checker/ByActivity" "choices" "I" (.int (Int32.ofNat 2))) := by
  refine ctr (own := "com/example/sightline/sightline/checker/ByActivityDecayPinLaw") (nm := "decays") rfl rfl (Ls := #[.val (.ref b), .val (.int (0 : Int32))]) (plainFor_of_name pn2) (fun m => by first | (simp [entryFrame, mkF, argsToLocals, Value.category]; done) | rfl) ?_
  intro p e s m below meth c K eh
  have P0 := Keep.refl h0 [b]
  refine Jvm.OwnWp.iloadN K d_method_3_0 rfl (pc' := 1) rfl ?_
  refine ifY K d_method_3_1 (by decide) (pc' := 8) (by decide) (by decide) ?_
  refine Jvm.OwnWp.iloadN K d_method_3_8 rfl (pc' := 9) rfl ?_
  refine Jvm.OwnWp.iconst K (1 : Int32) d_method_3_9 (by decide) (pc' := 10) rfl ?_
  refine icY K d_method_3_10 (by decide) (pc' := 17) (by decide) (by decide) ?_
  refine Jvm.OwnWp.iloadN K d_method_3_17 rfl (pc' := 18) rfl ?_
  refine Jvm.OwnWp.iconst K (2 : Int32) d_method_3_18 (by decide) (pc' := 19) rfl ?_
  refine icY K d_method_3_19 (by decide) (pc' := 26) (by decide) (by decide) ?_
  refine Jvm.OwnWp.iloadN K d_method_3_26 rfl (pc' := 27) rfl ?_
  refine Jvm.OwnWp.iconst K (3 : Int32) d_method_3_27 (by decide) (pc' := 28) rfl ?_
  refine icY K d_method_3_28 (by decide) (pc' := 35) (by decide) (by decide) ?_
  refine retV K rfl d_method_3_35 (Nat.le_of_ble_eq_true rfl) (Nat.le_of_ble_eq_true rfl) ?_
  exact ⟨rfl, P0, F_act, F_heap, F_slot, F_count, F_gain, F_choices⟩
set_option maxRecDepth 65536 in
set_option maxHeartbeats 40000000 in
theorem c_dec1 (l : Launch) (Z : State) (a0 : Array Value) (hw : ∀ d ∈ tables_1, d.before a0 Z = true) (ws : List Jvm.Cond) (b ka ha sa : Addr) (h0 : Heap) (n0 : Nat) (Z0 : n0 ≤ h0.size) (E : Exa Z h0 b "com/example/sightline/sightline/checker/ByActivity") (F_act : Fld Z h0 b "com/example/sightline/sightline/checker/ByActivity" "activity" "[D" (.ref ka)) (F_heap : Fld Z h0 b "com/example/sightline/sightline/checker/ByActivity" "heap" "[I" (.ref ha)) (F_slot : Fld Z h0 b "com/example/sightline/sightline/checker/ByActivity" "slot" "[I" (.ref sa)) (F_count : Fld Z h0 b "com/example/sightline/sightline/checker/ByActivity" "count" "I" (.int (Int32.ofNat 1))) (F_gain : Fld Z h0 b "com/example/sightline/sightline/checker/ByActivity" "gain" "D" (.double 4607182418800017408)) (F_choices : Fld Z h0 b "com/example/sightline/sightline/checker/ByActivity" "choices" "I" (.int (Int32.ofNat 2))) (ge_b : n0 ≤ b) :
    Ctr l Z (⟨"com/example/sightline/sightline/checker/ByActivityDecayPinLaw", "decays", "(Lcom/example/sightline/sightline/checker/ByActivity;I)V"⟩ : MethodName) method_3_code 2 none ws ({ frames := 1, cells := 0, slots := 0, locals := 12 } : Room) n0 #[(.ref b), (.int (1 : Int32))] h0 (fun v h => v = none ∧ Keep h0 h [b] ∧ Fld Z h b "com/example/sightline/sightline/checker/ByActivity" "activity" "[D" (.ref ka) ∧ Fld Z h b "com/example/sightline/sightline/checker/ByActivity" "heap" "[I" (.ref ha) ∧ Fld Z h b "com/example/sightline/sightline/checker/ByActivity" "slot" "[I" (.ref sa) ∧ Fld Z h b "com/example/sightline/sightline/checker/ByActivity" "count" "I" (.int (Int32.ofNat 1)) ∧ Fld Z h b "com/example/sightline/sightline/checker/ByActivity" "gain" "D" (.double 4609112532926033335) ∧ Fld Z h b "com/example/sightline/sightline/checker/ByActivity" "choices" "I" (.int (Int32.ofNat 2))) := by
  refine ctr (own := "com/example/sightline/sightline/checker/ByActivityDecayPinLaw") (nm := "decays") rfl rfl (Ls := #[.val (.ref b), .val (.int (1 : Int32))]) (plainFor_of_name pn2) (fun m => by first | (simp [entryFrame, mkF, argsToLocals, Value.category]; done) | rfl) ?_
  intro p e s m below meth c K eh
  have P0 := Keep.refl h0 [b]
  refine Jvm.OwnWp.iloadN K d_method_3_0 rfl (pc' := 1) rfl ?_
  refine ifN K d_method_3_1 (by decide) (pc' := 4) rfl ?_
  refine Jvm.OwnWp.aloadN K d_method_3_4 rfl rfl (pc' := 5) rfl ?_
  refine callVirt K (y := (⟨"com/example/sightline/sightline/checker/ByActivity", "decay", "()V"⟩ : MethodName)) (b := b) (argsL := []) (S := []) (wd54 hw) (wd55 hw) (wd57 hw) (wd56 hw) (wd3 hw) (wd58 hw) (by decide) E (c_decay l Z a0 hw [] b 4607182418800017408 4609112532926033335 h0 n0 Z0 (by decide +kernel) (Jvm.Free.Fl.val64_no.mpr (by decide +kernel)) (by decide +kernel) E F_gain ge_b) (lenOf pd3 rfl) d_method_3_5 rfl (Nat.le_of_ble_eq_true rfl) (Nat.le_of_ble_eq_true rfl) (Nat.le_of_ble_eq_true rfl) (Nat.le_of_ble_eq_true rfl) rfl (pc' := 8) rfl ?_
  rintro v34 h34 ⟨rfl, K34, Q34_g, Q34_F_act, Q34_F_heap, Q34_F_slot, Q34_F_count, Q34_F_choices⟩
  have X34_b := (Exa.keep E K34)
  have P34 := (P0.trans K34 (allS (Or.inl (List.mem_of_getElem? (i := 0) rfl)) (all0)))
  show Go _ _ _ _ _ _ _ _ _ _ _ h34 0 0 (mkF m 8 #[.val (.ref b), .val (.int (1 : Int32))] []) _
  have R34_F_act := Q34_F_act F_act
  have R34_F_heap := Q34_F_heap F_heap
  have R34_F_slot := Q34_F_slot F_slot
  have R34_F_count := Q34_F_count F_count
  have R34_F_choices := Q34_F_choices F_choices
  refine Jvm.OwnWp.iloadN K d_method_3_8 rfl (pc' := 9) rfl ?_
  refine Jvm.OwnWp.iconst K (1 : Int32) d_method_3_9 (by decide) (pc' := 10) rfl ?_
  refine icY K d_method_3_10 (by decide) (pc' := 17) (by decide) (by decide) ?_
  refine Jvm.OwnWp.iloadN K d_method_3_17 rfl (pc' := 18) rfl ?_
  refine Jvm.OwnWp.iconst K (2 : Int32) d_method_3_18 (by decide) (pc' := 19) rfl ?_
  refine icY K d_method_3_19 (by decide) (pc' := 26) (by decide) (by decide) ?_
  refine Jvm.OwnWp.iloadN K d_method_3_26 rfl (pc' := 27) rfl ?_
  refine Jvm.OwnWp.iconst K (3 : Int32) d_method_3_27 (by decide) (pc' := 28) rfl ?_
  refine icY K d_method_3_28 (by decide) (pc' := 35) (by decide) (by decide) ?_
  refine retV K rfl d_method_3_35 (Nat.le_of_ble_eq_true rfl) (Nat.le_of_ble_eq_true rfl) ?_
  exact ⟨rfl, P34, R34_F_act, R34_F_heap, R34_F_slot, R34_F_count, Q34_g, R34_F_choices⟩
set_option maxRecDepth 65536 in
set_option maxHeartbeats 40000000 in
theorem c_dec2 (l : Launch) (Z : State) (a0 : Array Value) (hw : ∀ d ∈ tables_1, d.before a0 Z = true) (ws : List Jvm.Cond) (b ka ha sa : Addr) (h0 : Heap) (n0 : Nat) (Z0 : n0 ≤ h0.size) (E : Exa Z h0 b "com/example/sightline/sightline/checker/ByActivity") (F_act : Fld Z h0 b "com/example/sightline/sightline/checker/ByActivity" "activity" "[D" (.ref ka)) (F_heap : Fld Z h0 b "com/example/sightline/sightline/checker/ByActivity" "heap" "[I" (.ref ha)) (F_slot : Fld Z h0 b "com/example/sightline/sightline/checker/ByActivity" "slot" "[I" (.ref sa)) (F_count : Fld Z h0 b "com/example/sightline/sightline/checker/ByActivity" "count" "I" (.int (Int32.ofNat 1))) (F_gain : Fld Z h0 b "com/example/sightline/sightline/checker/ByActivity" "gain" "D" (.double 4607182418800017408)) (F_choices : Fld Z h0 b "com/example/sightline/sightline/checker/ByActivity" "choices" "I" (.int (Int32.ofNat 2))) (ge_b : n0 ≤ b) :
    Ctr l Z (⟨"com/example/sightline/sightline/checker/ByActivityDecayPinLaw", "decays", "(Lcom/example/sightline/sightline/checker/ByActivity;I)V"⟩ : MethodName) method_3_code 2 none ws ({ frames := 1, cells := 0, slots := 0, locals := 12 } : Room) n0 #[(.ref b), (.int (2 : Int32))] h0 (fun v h => v = none ∧ Keep h0 h [b] ∧ Fld Z h b "com/example/sightline/sightline/checker/ByActivity" "activity" "[D" (.ref ka) ∧ Fld Z h b "com/example/sightline/sightline/checker/ByActivity" "heap" "[I" (.ref ha) ∧ Fld Z h b "com/example/sightline/sightline/checker/ByActivity" "slot" "[I" (.ref sa) ∧ Fld Z h b "com/example/sightline/sightline/checker/ByActivity" "count" "I" (.int (Int32.ofNat 1)) ∧ Fld Z h b "com/example/sightline/sightline/checker/ByActivity" "gain" "D" (.double 4611777928623864853) ∧ Fld Z h b "com/example/sightline/sightline/checker/ByActivity" "choices" "I" (.int (Int32.ofNat 2))) := by
  refine ctr (own := "com/example/sightline/sightline/checker/ByActivityDecayPinLaw") (nm := "decays") rfl rfl (Ls := #[.val (.ref b), .val (.int (2 : Int32))]) (plainFor_of_name pn2) (fun m => by first | (simp [entryFrame, mkF, argsToLocals, Value.category]; done) | rfl) ?_
  intro p e s m below meth c K eh
  have P0 := Keep.refl h0 [b]
  refine Jvm.OwnWp.iloadN K d_method_3_0 rfl (pc' := 1) rfl ?_
  refine ifN K d_method_3_1 (by decide) (pc' := 4) rfl ?_
  refine Jvm.OwnWp.aloadN K d_method_3_4 rfl rfl (pc' := 5) rfl ?_
  refine callVirt K (y := (⟨"com/example/sightline/sightline/checker/ByActivity", "decay", "()V"⟩ : MethodName)) (b := b) (argsL := []) (S := []) (wd54 hw) (wd55 hw) (wd57 hw) (wd56 hw) (wd3 hw) (wd58 hw) (by decide) E (c_decay l Z a0 hw [] b 4607182418800017408 4609112532926033335 h0 n0 Z0 (by decide +kernel) (Jvm.Free.Fl.val64_no.mpr (by decide +kernel)) (by decide +kernel) E F_gain ge_b) (lenOf pd3 rfl) d_method_3_5 rfl (Nat.le_of_ble_eq_true rfl) (Nat.le_of_ble_eq_true rfl) (Nat.le_of_ble_eq_true rfl) (Nat.le_of_ble_eq_true rfl) rfl (pc' := 8) rfl ?_
  rintro v35 h35 ⟨rfl, K35, Q35_g, Q35_F_act, Q35_F_heap, Q35_F_slot, Q35_F_count, Q35_F_choices⟩
  have X35_b := (Exa.keep E K35)
  have P35 := (P0.trans K35 (allS (Or.inl (List.mem_of_getElem? (i := 0) rfl)) (all0)))
  show Go _ _ _ _ _ _ _ _ _ _ _ h35 0 0 (mkF m 8 #[.val (.ref b), .val (.int (2 : Int32))] []) _
  have R35_F_act := Q35_F_act F_act
  have R35_F_heap := Q35_F_heap F_heap
  have R35_F_slot := Q35_F_slot F_slot
  have R35_F_count := Q35_F_count F_count
  have R35_F_choices := Q35_F_choices F_choices
  refine Jvm.OwnWp.iloadN K d_method_3_8 rfl (pc' := 9) rfl ?_
  refine Jvm.OwnWp.iconst K (1 : Int32) d_method_3_9 (by decide) (pc' := 10) rfl ?_
  refine icN K d_method_3_10 (by decide) (pc' := 13) rfl ?_
  refine Jvm.OwnWp.aloadN K d_method_3_13 rfl rfl (pc' := 14) rfl ?_
  refine callVirt K (y := (⟨"com/example/sightline/sightline/checker/ByActivity", "decay", "()V"⟩ : MethodName)) (b := b) (argsL := []) (S := []) (wd54 hw) (wd55 hw) (wd57 hw) (wd56 hw) (wd3 hw) (wd58 hw) (by decide) X35_b (c_decay l Z a0 hw [] b 4609112532926033335 4611777928623864853 h35 n0 (Nat.le_trans Z0 P35.1) (by decide +kernel) (Jvm.Free.Fl.val64_no.mpr (by decide +kernel)) (by decide +kernel) X35_b Q35_g ge_b) (lenOf pd3 rfl) d_method_3_14 rfl (Nat.le_of_ble_eq_true rfl) (Nat.le_of_ble_eq_true rfl) (Nat.le_of_ble_eq_true rfl) (Nat.le_of_ble_eq_true rfl) rfl (pc' := 17) rfl ?_
  rintro v36 h36 ⟨rfl, K36, Q36_g, Q36_F_act, Q36_F_heap, Q36_F_slot, Q36_F_count, Q36_F_choices⟩
  have X36_b := (Exa.keep X35_b K36)
  have P36 := (P35.trans K36 (allS (Or.inl (List.mem_of_getElem? (i := 0) rfl)) (all0)))
  show Go _ _ _ _ _ _ _ _ _ _ _ h36 0 0 (mkF m 17 #[.val (.ref b), .val (.int (2 : Int32))] []) _
  have R36_F_act := Q36_F_act R35_F_act
  have R36_F_heap := Q36_F_heap R35_F_heap
  have R36_F_slot := Q36_F_slot R35_F_slot
  have R36_F_count := Q36_F_count R35_F_count
  have R36_F_choices := Q36_F_choices R35_F_choices
  refine Jvm.OwnWp.iloadN K d_method_3_17 rfl (pc' := 18) rfl ?_
  refine Jvm.OwnWp.iconst K (2 : Int32) d_method_3_18 (by decide) (pc' := 19) rfl ?_
  refine icY K d_method_3_19 (by decide) (pc' := 26) (by decide) (by decide) ?_
  refine Jvm.OwnWp.iloadN K d_method_3_26 rfl (pc' := 27) rfl ?_
  refine Jvm.OwnWp.iconst K (3 : Int32) d_method_3_27 (by decide) (pc' := 28) rfl ?_
  refine icY K d_method_3_28 (by decide) (pc' := 35) (by decide) (by decide) ?_
  refine retV K rfl d_method_3_35 (Nat.le_of_ble_eq_true rfl) (Nat.le_of_ble_eq_true rfl) ?_
  exact ⟨rfl, P36, R36_F_act, R36_F_heap, R36_F_slot, R36_F_count, Q36_g, R36_F_choices⟩
set_option maxRecDepth 65536 in
set_option maxHeartbeats 40000000 in
theorem c_dec3 (l : Launch) (Z : State) (a0 : Array Value) (hw : ∀ d ∈ tables_1, d.before a0 Z = true) (ws : List Jvm.Cond) (b ka ha sa : Addr) (h0 : Heap) (n0 : Nat) (Z0 : n0 ≤ h0.size) (E : Exa Z h0 b "com/example/sightline/sightline/checker/ByActivity") (F_act : Fld Z h0 b "com/example/sightline/sightline/checker/ByActivity" "activity" "[D" (.ref ka)) (F_heap : Fld Z h0 b "com/example/sightline/sightline/checker/ByActivity" "heap" "[I" (.ref ha)) (F_slot : Fld Z h0 b "com/example/sightline/sightline/checker/ByActivity" "slot" "[I" (.ref sa)) (F_count : Fld Z h0 b "com/example/sightline/sightline/checker/ByActivity" "count" "I" (.int (Int32.ofNat 1))) (F_gain : Fld Z h0 b "com/example/sightline/sightline/checker/ByActivity" "gain" "D" (.double 4607182418800017408)) (F_choices : Fld Z h0 b "com/example/sightline/sightline/checker/ByActivity" "choices" "I" (.int (Int32.ofNat 2))) (ge_b : n0 ≤ b) :
    Ctr l Z (⟨"com/example/sightline/sightline/checker/ByActivityDecayPinLaw", "decays", "(Lcom/example/sightline/sightline/checker/ByActivity;I)V"⟩ : MethodName) method_3_code 2 none ws ({ frames := 1, cells := 0, slots := 0, locals := 12 } : Room) n0 #[(.ref b), (.int (3 : Int32))] h0 (fun v h => v = none ∧ Keep h0 h [b] ∧ Fld Z h b "com/example/sightline/sightline/checker/ByActivity" "activity" "[D" (.ref ka) ∧ Fld Z h b "com/example/sightline/sightline/checker/ByActivity" "heap" "[I" (.ref ha) ∧ Fld Z h b "com/example/sightline/sightline/checker/ByActivity" "slot" "[I" (.ref sa) ∧ Fld Z h b "com/example/sightline/sightline/checker/ByActivity" "count" "I" (.int (Int32.ofNat 1)) ∧ Fld Z h b "com/example/sightline/sightline/checker/ByActivity" "gain" "D" (.double 4613747432834085187) ∧ Fld Z h b "com/example/sightline/sightline/checker/ByActivity" "choices" "I" (.int (Int32.ofNat 2))) := by
  refine ctr (own := "com/example/sightline/sightline/checker/ByActivityDecayPinLaw") (nm := "decays") rfl rfl (Ls := #[.val (.ref b), .val (.int (3 : Int32))]) (plainFor_of_name pn2) (fun m => by first | (simp [entryFrame, mkF, argsToLocals, Value.category]; done) | rfl) ?_
  intro p e s m below meth c K eh
  have P0 := Keep.refl h0 [b]
  refine Jvm.OwnWp.iloadN K d_method_3_0 rfl (pc' := 1) rfl ?_
  refine ifN K d_method_3_1 (by decide) (pc' := 4) rfl ?_
  refine Jvm.OwnWp.aloadN K d_method_3_4 rfl rfl (pc' := 5) rfl ?_
  refine callVirt K (y := (⟨"com/example/sightline/sightline/checker/ByActivity", "decay", "()V"⟩ : MethodName)) (b := b) (argsL := []) (S := []) (wd54 hw) (wd55 hw) (wd57 hw) (wd56 hw) (wd3 hw) (wd58 hw) (by decide) E (c_decay l Z a0 hw [] b 4607182418800017408 4609112532926033335 h0 n0 Z0 (by decide +kernel) (Jvm.Free.Fl.val64_no.mpr (by decide +kernel)) (by decide +kernel) E F_gain ge_b) (lenOf pd3 rfl) d_method_3_5 rfl (Nat.le_of_ble_eq_true rfl) (Nat.le_of_ble_eq_true rfl) (Nat.le_of_ble_eq_true rfl) (Nat.le_of_ble_eq_true rfl) rfl (pc' := 8) rfl ?_
  rintro v37 h37 ⟨rfl, K37, Q37_g, Q37_F_act, Q37_F_heap, Q37_F_slot, Q37_F_count, Q37_F_choices⟩
  have X37_b := (Exa.keep E K37)
  have P37 := (P0.trans K37 (allS (Or.inl (List.mem_of_getElem? (i := 0) rfl)) (all0)))
  show Go _ _ _ _ _ _ _ _ _ _ _ h37 0 0 (mkF m 8 #[.val (.ref b), .val (.int (3 : Int32))] []) _
  have R37_F_act := Q37_F_act F_act
  have R37_F_heap := Q37_F_heap F_heap
  have R37_F_slot := Q37_F_slot F_slot
  have R37_F_count := Q37_F_count F_count
  have R37_F_choices := Q37_F_choices F_choices
  refine Jvm.OwnWp.iloadN K d_method_3_8 rfl (pc' := 9) rfl ?_
  refine Jvm.OwnWp.iconst K (1 : Int32) d_method_3_9 (by decide) (pc' := 10) rfl ?_
  refine icN K d_method_3_10 (by decide) (pc' := 13) rfl ?_
  refine Jvm.OwnWp.aloadN K d_method_3_13 rfl rfl (pc' := 14) rfl ?_
  refine callVirt K (y := (⟨"com/example/sightline/sightline/checker/ByActivity", "decay", "()V"⟩ : MethodName)) (b := b) (argsL := []) (S := []) (wd54 hw) (wd55 hw) (wd57 hw) (wd56 hw) (wd3 hw) (wd58 hw) (by decide) X37_b (c_decay l Z a0 hw [] b 4609112532926033335 4611777928623864853 h37 n0 (Nat.le_trans Z0 P37.1) (by decide +kernel) (Jvm.Free.Fl.val64_no.mpr (by decide +kernel)) (by decide +kernel) X37_b Q37_g ge_b) (lenOf pd3 rfl) d_method_3_14 rfl (Nat.le_of_ble_eq_true rfl) (Nat.le_of_ble_eq_true rfl) (Nat.le_of_ble_eq_true rfl) (Nat.le_of_ble_eq_true rfl) rfl (pc' := 17) rfl ?_
  rintro v38 h38 ⟨rfl, K38, Q38_g, Q38_F_act, Q38_F_heap, Q38_F_slot, Q38_F_count, Q38_F_choices⟩
  have X38_b := (Exa.keep X37_b K38)
  have P38 := (P37.trans K38 (allS (Or.inl (List.mem_of_getElem? (i := 0) rfl)) (all0)))
  show Go _ _ _ _ _ _ _ _ _ _ _ h38 0 0 (mkF m 17 #[.val (.ref b), .val (.int (3 : Int32))] []) _
  have R38_F_act := Q38_F_act R37_F_act
  have R38_F_heap := Q38_F_heap R37_F_heap
  have R38_F_slot := Q38_F_slot R37_F_slot
  have R38_F_count := Q38_F_count R37_F_count
  have R38_F_choices := Q38_F_choices R37_F_choices
  refine Jvm.OwnWp.iloadN K d_method_3_17 rfl (pc' := 18) rfl ?_
  refine Jvm.OwnWp.iconst K (2 : Int32) d_method_3_18 (by decide) (pc' := 19) rfl ?_
  refine icN K d_method_3_19 (by decide) (pc' := 22) rfl ?_
  refine Jvm.OwnWp.aloadN K d_method_3_22 rfl rfl (pc' := 23) rfl ?_
  refine callVirt K (y := (⟨"com/example/sightline/sightline/checker/ByActivity", "decay", "()V"⟩ : MethodName)) (b := b) (argsL := []) (S := []) (wd54 hw) (wd55 hw) (wd57 hw) (wd56 hw) (wd3 hw) (wd58 hw) (by decide) X38_b (c_decay l Z a0 hw [] b 4611777928623864853 4613747432834085187 h38 n0 (Nat.le_trans Z0 P38.1) (by decide +kernel) (Jvm.Free.Fl.val64_no.mpr (by decide +kernel)) (by decide +kernel) X38_b Q38_g ge_b) (lenOf pd3 rfl) d_method_3_23 rfl (Nat.le_of_ble_eq_true rfl) (Nat.le_of_ble_eq_true rfl) (Nat.le_of_ble_eq_true rfl) (Nat.le_of_ble_eq_true rfl) rfl (pc' := 26) rfl ?_
  rintro v39 h39 ⟨rfl, K39, Q39_g, Q39_F_act, Q39_F_heap, Q39_F_slot, Q39_F_count, Q39_F_choices⟩
  have X39_b := (Exa.keep X38_b K39)
  have P39 := (P38.trans K39 (allS (Or.inl (List.mem_of_getElem? (i := 0) rfl)) (all0)))
  show Go _ _ _ _ _ _ _ _ _ _ _ h39 0 0 (mkF m 26 #[.val (.ref b), .val (.int (3 : Int32))] []) _
  have R39_F_act := Q39_F_act R38_F_act
  have R39_F_heap := Q39_F_heap R38_F_heap
  have R39_F_slot := Q39_F_slot R38_F_slot
  have R39_F_count := Q39_F_count R38_F_count
  have R39_F_choices := Q39_F_choices R38_F_choices
  refine Jvm.OwnWp.iloadN K d_method_3_26 rfl (pc' := 27) rfl ?_
  refine Jvm.OwnWp.iconst K (3 : Int32) d_method_3_27 (by decide) (pc' := 28) rfl ?_
  refine icY K d_method_3_28 (by decide) (pc' := 35) (by decide) (by decide) ?_
  refine retV K rfl d_method_3_35 (Nat.le_of_ble_eq_true rfl) (Nat.le_of_ble_eq_true rfl) ?_
  exact ⟨rfl, P39, R39_F_act, R39_F_heap, R39_F_slot, R39_F_count, Q39_g, R39_F_choices⟩
set_option maxRecDepth 65536 in
set_option maxHeartbeats 40000000 in
theorem c_dec4 (l : Launch) (Z : State) (a0 : Array Value) (hw : ∀ d ∈ tables_1, d.before a0 Z = true) (ws : List Jvm.Cond) (b ka ha sa : Addr) (h0 : Heap) (n0 : Nat) (Z0 : n0 ≤ h0.size) (E : Exa Z h0 b "com/example/sightline/sightline/checker/ByActivity") (F_act : Fld Z h0 b "com/example/sightline/sightline/checker/ByActivity" "activity" "[D" (.ref ka)) (F_heap : Fld Z h0 b "com/example/sightline/sightline/checker/ByActivity" "heap" "[I" (.ref ha)) (F_slot : Fld Z h0 b "com/example/sightline/sightline/checker/ByActivity" "slot" "[I" (.ref sa)) (F_count : Fld Z h0 b "com/example/sightline/sightline/checker/ByActivity" "count" "I" (.int (Int32.ofNat 1))) (F_gain : Fld Z h0 b "com/example/sightline/sightline/checker/ByActivity" "gain" "D" (.double 4607182418800017408)) (F_choices : Fld Z h0 b "com/example/sightline/sightline/checker/ByActivity" "choices" "I" (.int (Int32.ofNat 2))) (ge_b : n0 ≤ b) :
    Ctr l Z (⟨"com/example/sightline/sightline/checker/ByActivityDecayPinLaw", "decays", "(Lcom/example/sightline/sightline/checker/ByActivity;I)V"⟩ : MethodName) method_3_code 2 none ws ({ frames := 1, cells := 0, slots := 0, locals := 12 } : Room) n0 #[(.ref b), (.int (4 : Int32))] h0 (fun v h => v = none ∧ Keep h0 h [b] ∧ Fld Z h b "com/example/sightline/sightline/checker/ByActivity" "activity" "[D" (.ref ka) ∧ Fld Z h b "com/example/sightline/sightline/checker/ByActivity" "heap" "[I" (.ref ha) ∧ Fld Z h b "com/example/sightline/sightline/checker/ByActivity" "slot" "[I" (.ref sa) ∧ Fld Z h b "com/example/sightline/sightline/checker/ByActivity" "count" "I" (.int (Int32.ofNat 1)) ∧ Fld Z h b "com/example/sightline/sightline/checker/ByActivity" "gain" "D" (.double 4616375314166007746) ∧ Fld Z h b "com/example/sightline/sightline/checker/ByActivity" "choices" "I" (.int (Int32.ofNat 2))) := by
  refine ctr (own := "com/example/sightline/sightline/checker/ByActivityDecayPinLaw") (nm := "decays") rfl rfl (Ls := #[.val (.ref b), .val (.int (4 : Int32))]) (plainFor_of_name pn2) (fun m => by first | (simp [entryFrame, mkF, argsToLocals, Value.category]; done) | rfl) ?_
  intro p e s m below meth c K eh
  have P0 := Keep.refl h0 [b]
  refine Jvm.OwnWp.iloadN K d_method_3_0 rfl (pc' := 1) rfl ?_
  refine ifN K d_method_3_1 (by decide) (pc' := 4) rfl ?_
  refine Jvm.OwnWp.aloadN K d_method_3_4 rfl rfl (pc' := 5) rfl ?_
  refine callVirt K (y := (⟨"com/example/sightline/sightline/checker/ByActivity", "decay", "()V"⟩ : MethodName)) (b := b) (argsL := []) (S := []) (wd54 hw) (wd55 hw) (wd57 hw) (wd56 hw) (wd3 hw) (wd58 hw) (by decide) E (c_decay l Z a0 hw [] b 4607182418800017408 4609112532926033335 h0 n0 Z0 (by decide +kernel) (Jvm.Free.Fl.val64_no.mpr (by decide +kernel)) (by decide +kernel) E F_gain ge_b) (lenOf pd3 rfl) d_method_3_5 rfl (Nat.le_of_ble_eq_true rfl) (Nat.le_of_ble_eq_true rfl) (Nat.le_of_ble_eq_true rfl) (Nat.le_of_ble_eq_true rfl) rfl (pc' := 8) rfl ?_
  rintro v40 h40 ⟨rfl, K40, Q40_g, Q40_F_act, Q40_F_heap, Q40_F_slot, Q40_F_count, Q40_F_choices⟩
  have X40_b := (Exa.keep E K40)
  have P40 := (P0.trans K40 (allS (Or.inl (List.mem_of_getElem? (i := 0) rfl)) (all0)))
  show Go _ _ _ _ _ _ _ _ _ _ _ h40 0 0 (mkF m 8 #[.val (.ref b), .val (.int (4 : Int32))] []) _
  have R40_F_act := Q40_F_act F_act
  have R40_F_heap := Q40_F_heap F_heap
  have R40_F_slot := Q40_F_slot F_slot
  have R40_F_count := Q40_F_count F_count
  have R40_F_choices := Q40_F_choices F_choices
  refine Jvm.OwnWp.iloadN K d_method_3_8 rfl (pc' := 9) rfl ?_
  refine Jvm.OwnWp.iconst K (1 : Int32) d_method_3_9 (by decide) (pc' := 10) rfl ?_
  refine icN K d_method_3_10 (by decide) (pc' := 13) rfl ?_
  refine Jvm.OwnWp.aloadN K d_method_3_13 rfl rfl (pc' := 14) rfl ?_
  refine callVirt K (y := (⟨"com/example/sightline/sightline/checker/ByActivity", "decay", "()V"⟩ : MethodName)) (b := b) (argsL := []) (S := []) (wd54 hw) (wd55 hw) (wd57 hw) (wd56 hw) (wd3 hw) (wd58 hw) (by decide) X40_b (c_decay l Z a0 hw [] b 4609112532926033335 4611777928623864853 h40 n0 (Nat.le_trans Z0 P40.1) (by decide +kernel) (Jvm.Free.Fl.val64_no.mpr (by decide +kernel)) (by decide +kernel) X40_b Q40_g ge_b) (lenOf pd3 rfl) d_method_3_14 rfl (Nat.le_of_ble_eq_true rfl) (Nat.le_of_ble_eq_true rfl) (Nat.le_of_ble_eq_true rfl) (Nat.le_of_ble_eq_true rfl) rfl (pc' := 17) rfl ?_
  rintro v41 h41 ⟨rfl, K41, Q41_g, Q41_F_act, Q41_F_heap, Q41_F_slot, Q41_F_count, Q41_F_choices⟩
  have X41_b := (Exa.keep X40_b K41)
  have P41 := (P40.trans K41 (allS (Or.inl (List.mem_of_getElem? (i := 0) rfl)) (all0)))
  show Go _ _ _ _ _ _ _ _ _ _ _ h41 0 0 (mkF m 17 #[.val (.ref b), .val (.int (4 : Int32))] []) _
  have R41_F_act := Q41_F_act R40_F_act
  have R41_F_heap := Q41_F_heap R40_F_heap
  have R41_F_slot := Q41_F_slot R40_F_slot
  have R41_F_count := Q41_F_count R40_F_count
  have R41_F_choices := Q41_F_choices R40_F_choices
  refine Jvm.OwnWp.iloadN K d_method_3_17 rfl (pc' := 18) rfl ?_
  refine Jvm.OwnWp.iconst K (2 : Int32) d_method_3_18 (by decide) (pc' := 19) rfl ?_
  refine icN K d_method_3_19 (by decide) (pc' := 22) rfl ?_
  refine Jvm.OwnWp.aloadN K d_method_3_22 rfl rfl (pc' := 23) rfl ?_
  refine callVirt K (y := (⟨"com/example/sightline/sightline/checker/ByActivity", "decay", "()V"⟩ : MethodName)) (b := b) (argsL := []) (S := []) (wd54 hw) (wd55 hw) (wd57 hw) (wd56 hw) (wd3 hw) (wd58 hw) (by decide) X41_b (c_decay l Z a0 hw [] b 4611777928623864853 4613747432834085187 h41 n0 (Nat.le_trans Z0 P41.1) (by decide +kernel) (Jvm.Free.Fl.val64_no.mpr (by decide +kernel)) (by decide +kernel) X41_b Q41_g ge_b) (lenOf pd3 rfl) d_method_3_23 rfl (Nat.le_of_ble_eq_true rfl) (Nat.le_of_ble_eq_true rfl) (Nat.le_of_ble_eq_true rfl) (Nat.le_of_ble_eq_true rfl) rfl (pc' := 26) rfl ?_
  rintro v42 h42 ⟨rfl, K42, Q42_g, Q42_F_act, Q42_F_heap, Q42_F_slot, Q42_F_count, Q42_F_choices⟩
  have X42_b := (Exa.keep X41_b K42)
  have P42 := (P41.trans K42 (allS (Or.inl (List.mem_of_getElem? (i := 0) rfl)) (all0)))
  show Go _ _ _ _ _ _ _ _ _ _ _ h42 0 0 (mkF m 26 #[.val (.ref b), .val (.int (4 : Int32))] []) _
  have R42_F_act := Q42_F_act R41_F_act
  have R42_F_heap := Q42_F_heap R41_F_heap
  have R42_F_slot := Q42_F_slot R41_F_slot
  have R42_F_count := Q42_F_count R41_F_count
  have R42_F_choices := Q42_F_choices R41_F_choices
  refine Jvm.OwnWp.iloadN K d_method_3_26 rfl (pc' := 27) rfl ?_
  refine Jvm.OwnWp.iconst K (3 : Int32) d_method_3_27 (by decide) (pc' := 28) rfl ?_
  refine icN K d_method_3_28 (by decide) (pc' := 31) rfl ?_
  refine Jvm.OwnWp.aloadN K d_method_3_31 rfl rfl (pc' := 32) rfl ?_
  refine callVirt K (y := (⟨"com/example/sightline/sightline/checker/ByActivity", "decay", "()V"⟩ : MethodName)) (b := b) (argsL := []) (S := []) (wd54 hw) (wd55 hw) (wd57 hw) (wd56 hw) (wd3 hw) (wd58 hw) (by decide) X42_b (c_decay l Z a0 hw [] b 4613747432834085187 4616375314166007746 h42 n0 (Nat.le_trans Z0 P42.1) (by decide +kernel) (Jvm.Free.Fl.val64_no.mpr (by decide +kernel)) (by decide +kernel) X42_b Q42_g ge_b) (lenOf pd3 rfl) d_method_3_32 rfl (Nat.le_of_ble_eq_true rfl) (Nat.le_of_ble_eq_true rfl) (Nat.le_of_ble_eq_true rfl) (Nat.le_of_ble_eq_true rfl) rfl (pc' := 35) rfl ?_
  rintro v43 h43 ⟨rfl, K43, Q43_g, Q43_F_act, Q43_F_heap, Q43_F_slot, Q43_F_count, Q43_F_choices⟩
  have X43_b := (Exa.keep X42_b K43)
  have P43 := (P42.trans K43 (allS (Or.inl (List.mem_of_getElem? (i := 0) rfl)) (all0)))
  show Go _ _ _ _ _ _ _ _ _ _ _ h43 0 0 (mkF m 35 #[.val (.ref b), .val (.int (4 : Int32))] []) _
  have R43_F_act := Q43_F_act R42_F_act
  have R43_F_heap := Q43_F_heap R42_F_heap
  have R43_F_slot := Q43_F_slot R42_F_slot
  have R43_F_count := Q43_F_count R42_F_count
  have R43_F_choices := Q43_F_choices R42_F_choices
  refine retV K rfl d_method_3_35 (Nat.le_of_ble_eq_true rfl) (Nat.le_of_ble_eq_true rfl) ?_
  exact ⟨rfl, P43, R43_F_act, R43_F_heap, R43_F_slot, R43_F_count, Q43_g, R43_F_choices⟩
set_option maxRecDepth 65536 in
set_option maxHeartbeats 40000000 in
theorem c_b01 (l : Launch) (Z : State) (a0 : Array Value) (hw : ∀ d ∈ tables_1, d.before a0 Z = true) (ws : List Jvm.Cond) (b : Addr) (h0 : Heap) (n0 : Nat) (Z0 : n0 ≤ h0.size) (E : Exa Z h0 b "com/example/sightline/sightline/checker/ByActivity") (G3 : Fld Z h0 b "com/example/sightline/sightline/checker/ByActivity" "activity" "[D" .null) (G4 : Fld Z h0 b "com/example/sightline/sightline/checker/ByActivity" "heap" "[I" .null) (G5 : Fld Z h0 b "com/example/sightline/sightline/checker/ByActivity" "slot" "[I" .null) (G6 : Fld Z h0 b "com/example/sightline/sightline/checker/ByActivity" "count" "I" (.int (Int32.ofNat 0))) (F_gain : Fld Z h0 b "com/example/sightline/sightline/checker/ByActivity" "gain" "D" (.double 4607182418800017408)) (F_choices : Fld Z h0 b "com/example/sightline/sightline/checker/ByActivity" "choices" "I" (.int (Int32.ofNat 2))) (ge_b : n0 ≤ b) :
    Ctr l Z (⟨"com/example/sightline/sightline/checker/ByActivityDecayPinLaw", "bumps", "(Lcom/example/sightline/sightline/checker/ByActivity;II)V"⟩ : MethodName) method_2_code 3 none ws ({ frames := 4, cells := 3, slots := 15, locals := 54 } : Room) n0 #[(.ref b), (.int (Int32.ofNat 0)), (.int (1 : Int32))] h0 (fun v h => v = none ∧ Keep h0 h [b] ∧ ∃ (ka ha sa : Addr) (Hl : List Nat) (Sl : List Int32), h0.size ≤ ka ∧ h0.size ≤ ha ∧ h0.size ≤ sa ∧ ha ≠ ka ∧ sa ≠ ka ∧ sa ≠ ha ∧ WF 2 1 Hl Sl ∧ Hl.getD 0 0 = 0 ∧ Exa Z h b "com/example/sightline/sightline/checker/ByActivity" ∧ Fld Z h b "com/example/sightline/sightline/checker/ByActivity" "activity" "[D" (.ref ka) ∧ Fld Z h b "com/example/sightline/sightline/checker/ByActivity" "heap" "[I" (.ref ha) ∧ Fld Z h b "com/example/sightline/sightline/checker/ByActivity" "slot" "[I" (.ref sa) ∧ Fld Z h b "com/example/sightline/sightline/checker/ByActivity" "count" "I" (.int (Int32.ofNat 1)) ∧ Fld Z h b "com/example/sightline/sightline/checker/ByActivity" "gain" "D" (.double 4607182418800017408) ∧ Fld Z h b "com/example/sightline/sightline/checker/ByActivity" "choices" "I" (.int (Int32.ofNat 2)) ∧ DV Z h ka [4607182418800017408, 0] ∧ HV Z h ha Hl ∧ IV Z h sa Sl) := by
  refine ctr (own := "com/example/sightline/sightline/checker/ByActivityDecayPinLaw") (nm := "bumps") rfl rfl (Ls := #[.val (.ref b), .val (.int (Int32.ofNat 0)), .val (.int (1 : Int32))]) (plainFor_of_name pn2) (fun m => by first | (simp [entryFrame, mkF, argsToLocals, Value.category]; done) | rfl) ?_
  intro p e s m below meth c K eh
  have P0 := Keep.refl h0 [b]
  refine Jvm.OwnWp.aloadN K d_method_2_0 rfl rfl (pc' := 1) rfl ?_
  refine Jvm.OwnWp.iloadN K d_method_2_1 rfl (pc' := 2) rfl ?_
  obtain ⟨-, g1, g2, inv⟩ := inv_bumpN (N := 2) (c := 0) (by decide) (by decide) (inv_start (by decide)) (by decide) (by simp) (by decide)
  refine callVirt K (y := (⟨"com/example/sightline/sightline/checker/ByActivity", "bump", "(I)V"⟩ : MethodName)) (b := b) (argsL := [(.int (Int32.ofNat 0))]) (S := []) (wd18 hw) (wd19 hw) (wd21 hw) (wd20 hw) (wd3 hw) (wd22 hw) (by decide) E (c_bump0 l Z a0 hw [] b 2 0 4607182418800017408 h0 n0 Z0 (by decide) (by decide) (by decide) g1 g2 E G3 G4 G5 G6 F_gain F_choices ge_b) (lenOf pd1 rfl) d_method_2_2 rfl (Nat.le_of_ble_eq_true rfl) (Nat.le_of_ble_eq_true rfl) (Nat.le_of_ble_eq_true rfl) (Nat.le_of_ble_eq_true rfl) rfl (pc' := 5) rfl ?_
  rintro v44 h44 ⟨rfl, K44, ka, ha, sa, zk, zh, zs, ne_ha_ka, ne_sa_ka, ne_sa_ha, Q44_E, Q44_F_act, Q44_F_heap, Q44_F_slot, Q44_F_count, Q44_F_gain, Q44_F_choices, Q44_VA, Q44_VH, Q44_VS⟩
  have ne_b_ka : b ≠ ka := Nat.ne_of_lt (Nat.lt_of_lt_of_le (Exa.lt E) zk)
  have lt_ka : h0.size ≤ ka := Nat.le_trans P0.1 zk
  have ge_ka : n0 ≤ ka := Nat.le_trans Z0 lt_ka
  have ne_b_ha : b ≠ ha := Nat.ne_of_lt (Nat.lt_of_lt_of_le (Exa.lt E) zh)
  have lt_ha : h0.size ≤ ha := Nat.le_trans P0.1 zh
  have ge_ha : n0 ≤ ha := Nat.le_trans Z0 lt_ha
  have ne_b_sa : b ≠ sa := Nat.ne_of_lt (Nat.lt_of_lt_of_le (Exa.lt E) zs)
  have lt_sa : h0.size ≤ sa := Nat.le_trans P0.1 zs
  have ge_sa : n0 ≤ sa := Nat.le_trans Z0 lt_sa
  have X44_b := (Exa.keep E K44)
  have P44 := (P0.trans K44 (allS (Or.inl (List.mem_of_getElem? (i := 0) rfl)) (all0)))
  show Go _ _ _ _ _ _ _ _ _ _ _ h44 3 15 (mkF m 5 #[.val (.ref b), .val (.int (Int32.ofNat 0)), .val (.int (1 : Int32))] []) _
  change DV Z h44 ka ((List.replicate 2 0).set 0 (bumpA (List.replicate 2 0) 0)) at Q44_VA
  change HV Z h44 ha (pushB ((List.replicate 2 0).set 0 (bumpA (List.replicate 2 0) 0)) 0 (List.replicate 2 0) (List.replicate 2 (-1)) 0).1 at Q44_VH
  change IV Z h44 sa (pushB ((List.replicate 2 0).set 0 (bumpA (List.replicate 2 0) 0)) 0 (List.replicate 2 0) (List.replicate 2 (-1)) 0).2 at Q44_VS
  generalize pushB ((List.replicate 2 0).set 0 (bumpA (List.replicate 2 0) 0)) 0 (List.replicate 2 0) (List.replicate 2 (-1)) 0 = U44 at Q44_VH Q44_VS inv
  rw [show ((List.replicate 2 0).set 0 (bumpA (List.replicate 2 0) 0)) = [4607182418800017408, 0] from (by decide +kernel)] at Q44_VA inv
  have Q44_F_count : Fld Z h44 b "com/example/sightline/sightline/checker/ByActivity" "count" "I" (.int (Int32.ofNat 1)) := Q44_F_count
  refine Jvm.OwnWp.iloadN K d_method_2_5 rfl (pc' := 6) rfl ?_
  refine Jvm.OwnWp.iconst K (1 : Int32) d_method_2_6 (by decide) (pc' := 7) rfl ?_
  refine icY K d_method_2_7 (by decide) (pc' := 15) (by decide) (by decide) ?_
  refine Jvm.OwnWp.iloadN K d_method_2_15 rfl (pc' := 16) rfl ?_
  refine Jvm.OwnWp.iconst K (2 : Int32) d_method_2_16 (by decide) (pc' := 17) rfl ?_
  refine icY K d_method_2_17 (by decide) (pc' := 25) (by decide) (by decide) ?_
  refine retV K rfl d_method_2_25 (Nat.le_of_ble_eq_true rfl) (Nat.le_of_ble_eq_true rfl) ?_
  exact ⟨rfl, P44, ka, ha, sa, _, _, lt_ka, lt_ha, lt_sa, ne_ha_ka, ne_sa_ka, ne_sa_ha, inv.wf, root1 inv.wf inv.pm, Q44_E, Q44_F_act, Q44_F_heap, Q44_F_slot, Q44_F_count, Q44_F_gain, Q44_F_choices, Q44_VA, Q44_VH, Q44_VS⟩
set_option maxRecDepth 65536 in
set_option maxHeartbeats 40000000 in
theorem c_b02 (l : Launch) (Z : State) (a0 : Array Value) (hw : ∀ d ∈ tables_1, d.before a0 Z = true) (ws : List Jvm.Cond) (b : Addr) (h0 : Heap) (n0 : Nat) (Z0 : n0 ≤ h0.size) (E : Exa Z h0 b "com/example/sightline/sightline/checker/ByActivity") (G3 : Fld Z h0 b "com/example/sightline/sightline/checker/ByActivity" "activity" "[D" .null) (G4 : Fld Z h0 b "com/example/sightline/sightline/checker/ByActivity" "heap" "[I" .null) (G5 : Fld Z h0 b "com/example/sightline/sightline/checker/ByActivity" "slot" "[I" .null) (G6 : Fld Z h0 b "com/example/sightline/sightline/checker/ByActivity" "count" "I" (.int (Int32.ofNat 0))) (F_gain : Fld Z h0 b "com/example/sightline/sightline/checker/ByActivity" "gain" "D" (.double 4607182418800017408)) (F_choices : Fld Z h0 b "com/example/sightline/sightline/checker/ByActivity" "choices" "I" (.int (Int32.ofNat 2))) (ge_b : n0 ≤ b) :
    Ctr l Z (⟨"com/example/sightline/sightline/checker/ByActivityDecayPinLaw", "bumps", "(Lcom/example/sightline/sightline/checker/ByActivity;II)V"⟩ : MethodName) method_2_code 3 none ws ({ frames := 4, cells := 3, slots := 15, locals := 54 } : Room) n0 #[(.ref b), (.int (Int32.ofNat 0)), (.int (2 : Int32))] h0 (fun v h => v = none ∧ Keep h0 h [b] ∧ ∃ (ka ha sa : Addr) (Hl : List Nat) (Sl : List Int32), h0.size ≤ ka ∧ h0.size ≤ ha ∧ h0.size ≤ sa ∧ ha ≠ ka ∧ sa ≠ ka ∧ sa ≠ ha ∧ WF 2 1 Hl Sl ∧ Hl.getD 0 0 = 0 ∧ Exa Z h b "com/example/sightline/sightline/checker/ByActivity" ∧ Fld Z h b "com/example/sightline/sightline/checker/ByActivity" "activity" "[D" (.ref ka) ∧ Fld Z h b "com/example/sightline/sightline/checker/ByActivity" "heap" "[I" (.ref ha) ∧ Fld Z h b "com/example/sightline/sightline/checker/ByActivity" "slot" "[I" (.ref sa) ∧ Fld Z h b "com/example/sightline/sightline/checker/ByActivity" "count" "I" (.int (Int32.ofNat 1)) ∧ Fld Z h b "com/example/sightline/sightline/checker/ByActivity" "gain" "D" (.double 4607182418800017408) ∧ Fld Z h b "com/example/sightline/sightline/checker/ByActivity" "choices" "I" (.int (Int32.ofNat 2)) ∧ DV Z h ka [4611686018427387904, 0] ∧ HV Z h ha Hl ∧ IV Z h sa Sl) := by
  refine ctr (own := "com/example/sightline/sightline/checker/ByActivityDecayPinLaw") (nm := "bumps") rfl rfl (Ls := #[.val (.ref b), .val (.int (Int32.ofNat 0)), .val (.int (2 : Int32))]) (plainFor_of_name pn2) (fun m => by first | (simp [entryFrame, mkF, argsToLocals, Value.category]; done) | rfl) ?_
  intro p e s m below meth c K eh
  have P0 := Keep.refl h0 [b]
  refine Jvm.OwnWp.aloadN K d_method_2_0 rfl rfl (pc' := 1) rfl ?_
  refine Jvm.OwnWp.iloadN K d_method_2_1 rfl (pc' := 2) rfl ?_
  obtain ⟨-, g1, g2, inv⟩ := inv_bumpN (N := 2) (c := 0) (by decide) (by decide) (inv_start (by decide)) (by decide) (by simp) (by decide)
  refine callVirt K (y := (⟨"com/example/sightline/sightline/checker/ByActivity", "bump", "(I)V"⟩ : MethodName)) (b := b) (argsL := [(.int (Int32.ofNat 0))]) (S := []) (wd18 hw) (wd19 hw) (wd21 hw) (wd20 hw) (wd3 hw) (wd22 hw) (by decide) E (c_bump0 l Z a0 hw [] b 2 0 4607182418800017408 h0 n0 Z0 (by decide) (by decide) (by decide) g1 g2 E G3 G4 G5 G6 F_gain F_choices ge_b) (lenOf pd1 rfl) d_method_2_2 rfl (Nat.le_of_ble_eq_true rfl) (Nat.le_of_ble_eq_true rfl) (Nat.le_of_ble_eq_true rfl) (Nat.le_of_ble_eq_true rfl) rfl (pc' := 5) rfl ?_
  rintro v45 h45 ⟨rfl, K45, ka, ha, sa, zk, zh, zs, ne_ha_ka, ne_sa_ka, ne_sa_ha, Q45_E, Q45_F_act, Q45_F_heap, Q45_F_slot, Q45_F_count, Q45_F_gain, Q45_F_choices, Q45_VA, Q45_VH, Q45_VS⟩
  have ne_b_ka : b ≠ ka := Nat.ne_of_lt (Nat.lt_of_lt_of_le (Exa.lt E) zk)
  have lt_ka : h0.size ≤ ka := Nat.le_trans P0.1 zk
  have ge_ka : n0 ≤ ka := Nat.le_trans Z0 lt_ka
  have ne_b_ha : b ≠ ha := Nat.ne_of_lt (Nat.lt_of_lt_of_le (Exa.lt E) zh)
  have lt_ha : h0.size ≤ ha := Nat.le_trans P0.1 zh
  have ge_ha : n0 ≤ ha := Nat.le_trans Z0 lt_ha
  have ne_b_sa : b ≠ sa := Nat.ne_of_lt (Nat.lt_of_lt_of_le (Exa.lt E) zs)
  have lt_sa : h0.size ≤ sa := Nat.le_trans P0.1 zs
  have ge_sa : n0 ≤ sa := Nat.le_trans Z0 lt_sa
  have X45_b := (Exa.keep E K45)
  have P45 := (P0.trans K45 (allS (Or.inl (List.mem_of_getElem? (i := 0) rfl)) (all0)))
  show Go _ _ _ _ _ _ _ _ _ _ _ h45 3 15 (mkF m 5 #[.val (.ref b), .val (.int (Int32.ofNat 0)), .val (.int (2 : Int32))] []) _
  change DV Z h45 ka ((List.replicate 2 0).set 0 (bumpA (List.replicate 2 0) 0)) at Q45_VA
  change HV Z h45 ha (pushB ((List.replicate 2 0).set 0 (bumpA (List.replicate 2 0) 0)) 0 (List.replicate 2 0) (List.replicate 2 (-1)) 0).1 at Q45_VH
  change IV Z h45 sa (pushB ((List.replicate 2 0).set 0 (bumpA (List.replicate 2 0) 0)) 0 (List.replicate 2 0) (List.replicate 2 (-1)) 0).2 at Q45_VS
  generalize pushB ((List.replicate 2 0).set 0 (bumpA (List.replicate 2 0) 0)) 0 (List.replicate 2 0) (List.replicate 2 (-1)) 0 = U45 at Q45_VH Q45_VS inv
  rw [show ((List.replicate 2 0).set 0 (bumpA (List.replicate 2 0) 0)) = [4607182418800017408, 0] from (by decide +kernel)] at Q45_VA inv
  have Q45_F_count : Fld Z h45 b "com/example/sightline/sightline/checker/ByActivity" "count" "I" (.int (Int32.ofNat 1)) := Q45_F_count
  refine Jvm.OwnWp.iloadN K d_method_2_5 rfl (pc' := 6) rfl ?_
  refine Jvm.OwnWp.iconst K (1 : Int32) d_method_2_6 (by decide) (pc' := 7) rfl ?_
  refine icN K d_method_2_7 (by decide) (pc' := 10) rfl ?_
  refine Jvm.OwnWp.aloadN K d_method_2_10 rfl rfl (pc' := 11) rfl ?_
  refine Jvm.OwnWp.iloadN K d_method_2_11 rfl (pc' := 12) rfl ?_
  obtain ⟨-, g1, g2, i2, hi2, s1, inv'⟩ := inv_bumpU (c := 0) (by decide) (by decide) inv (by simp)
  refine callVirt K (y := (⟨"com/example/sightline/sightline/checker/ByActivity", "bump", "(I)V"⟩ : MethodName)) (b := b) (argsL := [(.int (Int32.ofNat 0))]) (S := []) (wd18 hw) (wd19 hw) (wd21 hw) (wd20 hw) (wd3 hw) (wd22 hw) (by decide) Q45_E (c_bumpU l Z a0 hw [] b ka ha sa 2 1 4607182418800017408 [4607182418800017408, 0] U45.1 U45.2 0 i2 h45 n0 (Nat.le_trans Z0 P45.1) inv.lA inv.wf.1 inv.wf.2.1 (by decide) (by decide) inv.wf.2.2.2.1 hi2 (by decide) g1 g2 s1 Q45_E Q45_F_act Q45_F_heap Q45_F_slot Q45_F_count Q45_F_gain Q45_F_choices Q45_VA Q45_VH Q45_VS (Ne.symm ne_b_ka) (Ne.symm ne_b_ha) (Ne.symm ne_b_sa) ne_ha_ka ne_sa_ka ne_sa_ha ge_b ge_ka ge_ha ge_sa) (lenOf pd1 rfl) d_method_2_12 rfl (Nat.le_of_ble_eq_true rfl) (Nat.le_of_ble_eq_true rfl) (Nat.le_of_ble_eq_true rfl) (Nat.le_of_ble_eq_true rfl) rfl (pc' := 15) rfl ?_
  rintro v46 h46 ⟨rfl, K46, Q46_E, Q46_F_act, Q46_F_heap, Q46_F_slot, Q46_F_count, Q46_F_gain, Q46_F_choices, Q46_VA, Q46_VH, Q46_VS⟩
  have X46_b := (Exa.keep Q45_E K46)
  have P46 := (P45.trans K46 (allS (Or.inl (List.mem_of_getElem? (i := 0) rfl)) (allS (Or.inr lt_ka) (allS (Or.inr lt_ha) (allS (Or.inr lt_sa) (all0))))))
  show Go _ _ _ _ _ _ _ _ _ _ _ h46 3 15 (mkF m 15 #[.val (.ref b), .val (.int (Int32.ofNat 0)), .val (.int (2 : Int32))] []) _
  replace inv := inv'
  change DV Z h46 ka ([4607182418800017408, 0].set 0 (bumpA [4607182418800017408, 0] 0)) at Q46_VA
  change HV Z h46 ha (upB ([4607182418800017408, 0].set 0 (bumpA [4607182418800017408, 0] 0)) (U45.1.getD i2 0) U45.1 U45.2 i2).1 at Q46_VH
  change IV Z h46 sa (upB ([4607182418800017408, 0].set 0 (bumpA [4607182418800017408, 0] 0)) (U45.1.getD i2 0) U45.1 U45.2 i2).2 at Q46_VS
  generalize upB ([4607182418800017408, 0].set 0 (bumpA [4607182418800017408, 0] 0)) (U45.1.getD i2 0) U45.1 U45.2 i2 = U46 at Q46_VH Q46_VS inv
  rw [show ([4607182418800017408, 0].set 0 (bumpA [4607182418800017408, 0] 0)) = [4611686018427387904, 0] from (by decide +kernel)] at Q46_VA inv
  have Q46_F_count : Fld Z h46 b "com/example/sightline/sightline/checker/ByActivity" "count" "I" (.int (Int32.ofNat 1)) := Q46_F_count
  refine Jvm.OwnWp.iloadN K d_method_2_15 rfl (pc' := 16) rfl ?_
  refine Jvm.OwnWp.iconst K (2 : Int32) d_method_2_16 (by decide) (pc' := 17) rfl ?_
  refine icY K d_method_2_17 (by decide) (pc' := 25) (by decide) (by decide) ?_
  refine retV K rfl d_method_2_25 (Nat.le_of_ble_eq_true rfl) (Nat.le_of_ble_eq_true rfl) ?_
  exact ⟨rfl, P46, ka, ha, sa, _, _, lt_ka, lt_ha, lt_sa, ne_ha_ka, ne_sa_ka, ne_sa_ha, inv.wf, root1 inv.wf inv.pm, Q46_E, Q46_F_act, Q46_F_heap, Q46_F_slot, Q46_F_count, Q46_F_gain, Q46_F_choices, Q46_VA, Q46_VH, Q46_VS⟩
set_option maxRecDepth 65536 in
set_option maxHeartbeats 40000000 in
theorem c_b03 (l : Launch) (Z : State) (a0 : Array Value) (hw : ∀ d ∈ tables_1, d.before a0 Z = true) (ws : List Jvm.Cond) (b : Addr) (h0 : Heap) (n0 : Nat) (Z0 : n0 ≤ h0.size) (E : Exa Z h0 b "com/example/sightline/sightline/checker/ByActivity") (G3 : Fld Z h0 b "com/example/sightline/sightline/checker/ByActivity" "activity" "[D" .null) (G4 : Fld Z h0 b "com/example/sightline/sightline/checker/ByActivity" "heap" "[I" .null) (G5 : Fld Z h0 b "com/example/sightline/sightline/checker/ByActivity" "slot" "[I" .null) (G6 : Fld Z h0 b "com/example/sightline/sightline/checker/ByActivity" "count" "I" (.int (Int32.ofNat 0))) (F_gain : Fld Z h0 b "com/example/sightline/sightline/checker/ByActivity" "gain" "D" (.double 4607182418800017408)) (F_choices : Fld Z h0 b "com/example/sightline/sightline/checker/ByActivity" "choices" "I" (.int (Int32.ofNat 2))) (ge_b : n0 ≤ b) :
    Ctr l Z (⟨"com/example/sightline/sightline/checker/ByActivityDecayPinLaw", "bumps", "(Lcom/example/sightline/sightline/checker/ByActivity;II)V"⟩ : MethodName) method_2_code 3 none ws ({ frames := 4, cells := 3, slots := 15, locals := 54 } : Room) n0 #[(.ref b), (.int (Int32.ofNat 0)), (.int (3 : Int32))] h0 (fun v h => v = none ∧ Keep h0 h [b] ∧ ∃ (ka ha sa : Addr) (Hl : List Nat) (Sl : List Int32), h0.size ≤ ka ∧ h0.size ≤ ha ∧ h0.size ≤ sa ∧ ha ≠ ka ∧ sa ≠ ka ∧ sa ≠ ha ∧ WF 2 1 Hl Sl ∧ Hl.getD 0 0 = 0 ∧ Exa Z h b "com/example/sightline/sightline/checker/ByActivity" ∧ Fld Z h b "com/example/sightline/sightline/checker/ByActivity" "activity" "[D" (.ref ka) ∧ Fld Z h b "com/example/sightline/sightline/checker/ByActivity" "heap" "[I" (.ref ha) ∧ Fld Z h b "com/example/sightline/sightline/checker/ByActivity" "slot" "[I" (.ref sa) ∧ Fld Z h b "com/example/sightline/sightline/checker/ByActivity" "count" "I" (.int (Int32.ofNat 1)) ∧ Fld Z h b "com/example/sightline/sightline/checker/ByActivity" "gain" "D" (.double 4607182418800017408) ∧ Fld Z h b "com/example/sightline/sightline/checker/ByActivity" "choices" "I" (.int (Int32.ofNat 2)) ∧ DV Z h ka [4613937818241073152, 0] ∧ HV Z h ha Hl ∧ IV Z h sa Sl) := by
  refine ctr (own := "com/example/sightline/sightline/checker/ByActivityDecayPinLaw") (nm := "bumps") rfl rfl (Ls := #[.val (.ref b), .val (.int (Int32.ofNat 0)), .val (.int (3 : Int32))]) (plainFor_of_name pn2) (fun m => by first | (simp [entryFrame, mkF, argsToLocals, Value.category]; done) | rfl) ?_
  intro p e s m below meth c K eh
  have P0 := Keep.refl h0 [b]
  refine Jvm.OwnWp.aloadN K d_method_2_0 rfl rfl (pc' := 1) rfl ?_
  refine Jvm.OwnWp.iloadN K d_method_2_1 rfl (pc' := 2) rfl ?_
  obtain ⟨-, g1, g2, inv⟩ := inv_bumpN (N := 2) (c := 0) (by decide) (by decide) (inv_start (by decide)) (by decide) (by simp) (by decide)
  refine callVirt K (y := (⟨"com/example/sightline/sightline/checker/ByActivity", "bump", "(I)V"⟩ : MethodName)) (b := b) (argsL := [(.int (Int32.ofNat 0))]) (S := []) (wd18 hw) (wd19 hw) (wd21 hw) (wd20 hw) (wd3 hw) (wd22 hw) (by decide) E (c_bump0 l Z a0 hw [] b 2 0 4607182418800017408 h0 n0 Z0 (by decide) (by decide) (by decide) g1 g2 E G3 G4 G5 G6 F_gain F_choices ge_b) (lenOf pd1 rfl) d_method_2_2 rfl (Nat.le_of_ble_eq_true rfl) (Nat.le_of_ble_eq_true rfl) (Nat.le_of_ble_eq_true rfl) (Nat.le_of_ble_eq_true rfl) rfl (pc' := 5) rfl ?_
  rintro v47 h47 ⟨rfl, K47, ka, ha, sa, zk, zh, zs, ne_ha_ka, ne_sa_ka, ne_sa_ha, Q47_E, Q47_F_act, Q47_F_heap, Q47_F_slot, Q47_F_count, Q47_F_gain, Q47_F_choices, Q47_VA, Q47_VH, Q47_VS⟩
  have ne_b_ka : b ≠ ka := Nat.ne_of_lt (Nat.lt_of_lt_of_le (Exa.lt E) zk)
  have lt_ka : h0.size ≤ ka := Nat.le_trans P0.1 zk
  have ge_ka : n0 ≤ ka := Nat.le_trans Z0 lt_ka
  have ne_b_ha : b ≠ ha := Nat.ne_of_lt (Nat.lt_of_lt_of_le (Exa.lt E) zh)
  have lt_ha : h0.size ≤ ha := Nat.le_trans P0.1 zh
  have ge_ha : n0 ≤ ha := Nat.le_trans Z0 lt_ha
  have ne_b_sa : b ≠ sa := Nat.ne_of_lt (Nat.lt_of_lt_of_le (Exa.lt E) zs)
  have lt_sa : h0.size ≤ sa := Nat.le_trans P0.1 zs
  have ge_sa : n0 ≤ sa := Nat.le_trans Z0 lt_sa
  have X47_b := (Exa.keep E K47)
  have P47 := (P0.trans K47 (allS (Or.inl (List.mem_of_getElem? (i := 0) rfl)) (all0)))
  show Go _ _ _ _ _ _ _ _ _ _ _ h47 3 15 (mkF m 5 #[.val (.ref b), .val (.int (Int32.ofNat 0)), .val (.int (3 : Int32))] []) _
  change DV Z h47 ka ((List.replicate 2 0).set 0 (bumpA (List.replicate 2 0) 0)) at Q47_VA
  change HV Z h47 ha (pushB ((List.replicate 2 0).set 0 (bumpA (List.replicate 2 0) 0)) 0 (List.replicate 2 0) (List.replicate 2 (-1)) 0).1 at Q47_VH
  change IV Z h47 sa (pushB ((List.replicate 2 0).set 0 (bumpA (List.replicate 2 0) 0)) 0 (List.replicate 2 0) (List.replicate 2 (-1)) 0).2 at Q47_VS
  generalize pushB ((List.replicate 2 0).set 0 (bumpA (List.replicate 2 0) 0)) 0 (List.replicate 2 0) (List.replicate 2 (-1)) 0 = U47 at Q47_VH Q47_VS inv
  rw [show ((List.replicate 2 0).set 0 (bumpA (List.replicate 2 0) 0)) = [4607182418800017408, 0] from (by decide +kernel)] at Q47_VA inv
  have Q47_F_count : Fld Z h47 b "com/example/sightline/sightline/checker/ByActivity" "count" "I" (.int (Int32.ofNat 1)) := Q47_F_count
  refine Jvm.OwnWp.iloadN K d_method_2_5 rfl (pc' := 6) rfl ?_
  refine Jvm.OwnWp.iconst K (1 : Int32) d_method_2_6 (by decide) (pc' := 7) rfl ?_
  refine icN K d_method_2_7 (by decide) (pc' := 10) rfl ?_
  refine Jvm.OwnWp.aloadN K d_method_2_10 rfl rfl (pc' := 11) rfl ?_
  refine Jvm.OwnWp.iloadN K d_method_2_11 rfl (pc' := 12) rfl ?_
  obtain ⟨-, g1, g2, i2, hi2, s1, inv'⟩ := inv_bumpU (c := 0) (by decide) (by decide) inv (by simp)
  refine callVirt K (y := (⟨"com/example/sightline/sightline/checker/ByActivity", "bump", "(I)V"⟩ : MethodName)) (b := b) (argsL := [(.int (Int32.ofNat 0))]) (S := []) (wd18 hw) (wd19 hw) (wd21 hw) (wd20 hw) (wd3 hw) (wd22 hw) (by decide) Q47_E (c_bumpU l Z a0 hw [] b ka ha sa 2 1 4607182418800017408 [4607182418800017408, 0] U47.1 U47.2 0 i2 h47 n0 (Nat.le_trans Z0 P47.1) inv.lA inv.wf.1 inv.wf.2.1 (by decide) (by decide) inv.wf.2.2.2.1 hi2 (by decide) g1 g2 s1 Q47_E Q47_F_act Q47_F_heap Q47_F_slot Q47_F_count Q47_F_gain Q47_F_choices Q47_VA Q47_VH Q47_VS (Ne.symm ne_b_ka) (Ne.symm ne_b_ha) (Ne.symm ne_b_sa) ne_ha_ka ne_sa_ka ne_sa_ha ge_b ge_ka ge_ha ge_sa) (lenOf pd1 rfl) d_method_2_12 rfl (Nat.le_of_ble_eq_true rfl) (Nat.le_of_ble_eq_true rfl) (Nat.le_of_ble_eq_true rfl) (Nat.le_of_ble_eq_true rfl) rfl (pc' := 15) rfl ?_
  rintro v48 h48 ⟨rfl, K48, Q48_E, Q48_F_act, Q48_F_heap, Q48_F_slot, Q48_F_count, Q48_F_gain, Q48_F_choices, Q48_VA, Q48_VH, Q48_VS⟩
  have X48_b := (Exa.keep Q47_E K48)
  have P48 := (P47.trans K48 (allS (Or.inl (List.mem_of_getElem? (i := 0) rfl)) (allS (Or.inr lt_ka) (allS (Or.inr lt_ha) (allS (Or.inr lt_sa) (all0))))))
  show Go _ _ _ _ _ _ _ _ _ _ _ h48 3 15 (mkF m 15 #[.val (.ref b), .val (.int (Int32.ofNat 0)), .val (.int (3 : Int32))] []) _
  replace inv := inv'
  change DV Z h48 ka ([4607182418800017408, 0].set 0 (bumpA [4607182418800017408, 0] 0)) at Q48_VA
  change HV Z h48 ha (upB ([4607182418800017408, 0].set 0 (bumpA [4607182418800017408, 0] 0)) (U47.1.getD i2 0) U47.1 U47.2 i2).1 at Q48_VH
  change IV Z h48 sa (upB ([4607182418800017408, 0].set 0 (bumpA [4607182418800017408, 0] 0)) (U47.1.getD i2 0) U47.1 U47.2 i2).2 at Q48_VS
  generalize upB ([4607182418800017408, 0].set 0 (bumpA [4607182418800017408, 0] 0)) (U47.1.getD i2 0) U47.1 U47.2 i2 = U48 at Q48_VH Q48_VS inv
  rw [show ([4607182418800017408, 0].set 0 (bumpA [4607182418800017408, 0] 0)) = [4611686018427387904, 0] from (by decide +kernel)] at Q48_VA inv
  have Q48_F_count : Fld Z h48 b "com/example/sightline/sightline/checker/ByActivity" "count" "I" (.int (Int32.ofNat 1)) := Q48_F_count
  refine Jvm.OwnWp.iloadN K d_method_2_15 rfl (pc' := 16) rfl ?_
  refine Jvm.OwnWp.iconst K (2 : Int32) d_method_2_16 (by decide) (pc' := 17) rfl ?_
  refine icN K d_method_2_17 (by decide) (pc' := 20) rfl ?_
  refine Jvm.OwnWp.aloadN K d_method_2_20 rfl rfl (pc' := 21) rfl ?_
  refine Jvm.OwnWp.iloadN K d_method_2_21 rfl (pc' := 22) rfl ?_
  obtain ⟨-, g1, g2, i3, hi3, s1, inv'⟩ := inv_bumpU (c := 0) (by decide) (by decide) inv (by simp)
  refine callVirt K (y := (⟨"com/example/sightline/sightline/checker/ByActivity", "bump", "(I)V"⟩ : MethodName)) (b := b) (argsL := [(.int (Int32.ofNat 0))]) (S := []) (wd18 hw) (wd19 hw) (wd21 hw) (wd20 hw) (wd3 hw) (wd22 hw) (by decide) Q48_E (c_bumpU l Z a0 hw [] b ka ha sa 2 1 4607182418800017408 [4611686018427387904, 0] U48.1 U48.2 0 i3 h48 n0 (Nat.le_trans Z0 P48.1) inv.lA inv.wf.1 inv.wf.2.1 (by decide) (by decide) inv.wf.2.2.2.1 hi3 (by decide) g1 g2 s1 Q48_E Q48_F_act Q48_F_heap Q48_F_slot Q48_F_count Q48_F_gain Q48_F_choices Q48_VA Q48_VH Q48_VS (Ne.symm ne_b_ka) (Ne.symm ne_b_ha) (Ne.symm ne_b_sa) ne_ha_ka ne_sa_ka ne_sa_ha ge_b ge_ka ge_ha ge_sa) (lenOf pd1 rfl) d_method_2_22 rfl (Nat.le_of_ble_eq_true rfl) (Nat.le_of_ble_eq_true rfl) (Nat.le_of_ble_eq_true rfl) (Nat.le_of_ble_eq_true rfl) rfl (pc' := 25) rfl ?_
  rintro v49 h49 ⟨rfl, K49, Q49_E, Q49_F_act, Q49_F_heap, Q49_F_slot, Q49_F_count, Q49_F_gain, Q49_F_choices, Q49_VA, Q49_VH, Q49_VS⟩
  have X49_b := (Exa.keep Q48_E K49)
  have P49 := (P48.trans K49 (allS (Or.inl (List.mem_of_getElem? (i := 0) rfl)) (allS (Or.inr lt_ka) (allS (Or.inr lt_ha) (allS (Or.inr lt_sa) (all0))))))
  show Go _ _ _ _ _ _ _ _ _ _ _ h49 3 15 (mkF m 25 #[.val (.ref b), .val (.int (Int32.ofNat 0)), .val (.int (3 : Int32))] []) _
  replace inv := inv'
  change DV Z h49 ka ([4611686018427387904, 0].set 0 (bumpA [4611686018427387904, 0] 0)) at Q49_VA
  change HV Z h49 ha (upB ([4611686018427387904, 0].set 0 (bumpA [4611686018427387904, 0] 0)) (U48.1.getD i3 0) U48.1 U48.2 i3).1 at Q49_VH
  change IV Z h49 sa (upB ([4611686018427387904, 0].set 0 (bumpA [4611686018427387904, 0] 0)) (U48.1.getD i3 0) U48.1 U48.2 i3).2 at Q49_VS
  generalize upB ([4611686018427387904, 0].set 0 (bumpA [4611686018427387904, 0] 0)) (U48.1.getD i3 0) U48.1 U48.2 i3 = U49 at Q49_VH Q49_VS inv
  rw [show ([4611686018427387904, 0].set 0 (bumpA [4611686018427387904, 0] 0)) = [4613937818241073152, 0] from (by decide +kernel)] at Q49_VA inv
  have Q49_F_count : Fld Z h49 b "com/example/sightline/sightline/checker/ByActivity" "count" "I" (.int (Int32.ofNat 1)) := Q49_F_count
  refine retV K rfl d_method_2_25 (Nat.le_of_ble_eq_true rfl) (Nat.le_of_ble_eq_true rfl) ?_
  exact ⟨rfl, P49, ka, ha, sa, _, _, lt_ka, lt_ha, lt_sa, ne_ha_ka, ne_sa_ka, ne_sa_ha, inv.wf, root1 inv.wf inv.pm, Q49_E, Q49_F_act, Q49_F_heap, Q49_F_slot, Q49_F_count, Q49_F_gain, Q49_F_choices, Q49_VA, Q49_VH, Q49_VS⟩
set_option maxRecDepth 65536 in
set_option maxHeartbeats 40000000 in
theorem c_b11 (l : Launch) (Z : State) (a0 : Array Value) (hw : ∀ d ∈ tables_1, d.before a0 Z = true) (ws : List Jvm.Cond) (b : Addr) (h0 : Heap) (n0 : Nat) (Z0 : n0 ≤ h0.size) (E : Exa Z h0 b "com/example/sightline/sightline/checker/ByActivity") (G3 : Fld Z h0 b "com/example/sightline/sightline/checker/ByActivity" "activity" "[D" .null) (G4 : Fld Z h0 b "com/example/sightline/sightline/checker/ByActivity" "heap" "[I" .null) (G5 : Fld Z h0 b "com/example/sightline/sightline/checker/ByActivity" "slot" "[I" .null) (G6 : Fld Z h0 b "com/example/sightline/sightline/checker/ByActivity" "count" "I" (.int (Int32.ofNat 0))) (F_gain : Fld Z h0 b "com/example/sightline/sightline/checker/ByActivity" "gain" "D" (.double 4607182418800017408)) (F_choices : Fld Z h0 b "com/example/sightline/sightline/checker/ByActivity" "choices" "I" (.int (Int32.ofNat 2))) (ge_b : n0 ≤ b) :
    Ctr l Z (⟨"com/example/sightline/sightline/checker/ByActivityDecayPinLaw", "bumps", "(Lcom/example/sightline/sightline/checker/ByActivity;II)V"⟩ : MethodName) method_2_code 3 none ws ({ frames := 4, cells := 3, slots := 15, locals := 54 } : Room) n0 #[(.ref b), (.int (Int32.ofNat 1)), (.int (1 : Int32))] h0 (fun v h => v = none ∧ Keep h0 h [b] ∧ ∃ (ka ha sa : Addr) (Hl : List Nat) (Sl : List Int32), h0.size ≤ ka ∧ h0.size ≤ ha ∧ h0.size ≤ sa ∧ ha ≠ ka ∧ sa ≠ ka ∧ sa ≠ ha ∧ WF 2 1 Hl Sl ∧ Hl.getD 0 0 = 1 ∧ Exa Z h b "com/example/sightline/sightline/checker/ByActivity" ∧ Fld Z h b "com/example/sightline/sightline/checker/ByActivity" "activity" "[D" (.ref ka) ∧ Fld Z h b "com/example/sightline/sightline/checker/ByActivity" "heap" "[I" (.ref ha) ∧ Fld Z h b "com/example/sightline/sightline/checker/ByActivity" "slot" "[I" (.ref sa) ∧ Fld Z h b "com/example/sightline/sightline/checker/ByActivity" "count" "I" (.int (Int32.ofNat 1)) ∧ Fld Z h b "com/example/sightline/sightline/checker/ByActivity" "gain" "D" (.double 4607182418800017408) ∧ Fld Z h b "com/example/sightline/sightline/checker/ByActivity" "choices" "I" (.int (Int32.ofNat 2)) ∧ DV Z h ka [0, 4607182418800017408] ∧ HV Z h ha Hl ∧ IV Z h sa Sl) := by
  refine ctr (own := "com/example/sightline/sightline/checker/ByActivityDecayPinLaw") (nm := "bumps") rfl rfl (Ls := #[.val (.ref b), .val (.int (Int32.ofNat 1)), .val (.int (1 : Int32))]) (plainFor_of_name pn2) (fun m => by first | (simp [entryFrame, mkF, argsToLocals, Value.category]; done) | rfl) ?_
  intro p e s m below meth c K eh
  have P0 := Keep.refl h0 [b]
  refine Jvm.OwnWp.aloadN K d_method_2_0 rfl rfl (pc' := 1) rfl ?_
  refine Jvm.OwnWp.iloadN K d_method_2_1 rfl (pc' := 2) rfl ?_
  obtain ⟨-, g1, g2, inv⟩ := inv_bumpN (N := 2) (c := 1) (by decide) (by decide) (inv_start (by decide)) (by decide) (by simp) (by decide)
  refine callVirt K (y := (⟨"com/example/sightline/sightline/checker/ByActivity", "bump", "(I)V"⟩ : MethodName)) (b := b) (argsL := [(.int (Int32.ofNat 1))]) (S := []) (wd18 hw) (wd19 hw) (wd21 hw) (wd20 hw) (wd3 hw) (wd22 hw) (by decide) E (c_bump0 l Z a0 hw [] b 2 1 4607182418800017408 h0 n0 Z0 (by decide) (by decide) (by decide) g1 g2 E G3 G4 G5 G6 F_gain F_choices ge_b) (lenOf pd1 rfl) d_method_2_2 rfl (Nat.le_of_ble_eq_true rfl) (Nat.le_of_ble_eq_true rfl) (Nat.le_of_ble_eq_true rfl) (Nat.le_of_ble_eq_true rfl) rfl (pc' := 5) rfl ?_
  rintro v50 h50 ⟨rfl, K50, ka, ha, sa, zk, zh, zs, ne_ha_ka, ne_sa_ka, ne_sa_ha, Q50_E, Q50_F_act, Q50_F_heap, Q50_F_slot, Q50_F_count, Q50_F_gain, Q50_F_choices, Q50_VA, Q50_VH, Q50_VS⟩
  have ne_b_ka : b ≠ ka := Nat.ne_of_lt (Nat.lt_of_lt_of_le (Exa.lt E) zk)
  have lt_ka : h0.size ≤ ka := Nat.le_trans P0.1 zk
  have ge_ka : n0 ≤ ka := Nat.le_trans Z0 lt_ka
  have ne_b_ha : b ≠ ha := Nat.ne_of_lt (Nat.lt_of_lt_of_le (Exa.lt E) zh)
  have lt_ha : h0.size ≤ ha := Nat.le_trans P0.1 zh
  have ge_ha : n0 ≤ ha := Nat.le_trans Z0 lt_ha
  have ne_b_sa : b ≠ sa := Nat.ne_of_lt (Nat.lt_of_lt_of_le (Exa.lt E) zs)
  have lt_sa : h0.size ≤ sa := Nat.le_trans P0.1 zs
  have ge_sa : n0 ≤ sa := Nat.le_trans Z0 lt_sa
  have X50_b := (Exa.keep E K50)
  have P50 := (P0.trans K50 (allS (Or.inl (List.mem_of_getElem? (i := 0) rfl)) (all0)))
  show Go _ _ _ _ _ _ _ _ _ _ _ h50 3 15 (mkF m 5 #[.val (.ref b), .val (.int (Int32.ofNat 1)), .val (.int (1 : Int32))] []) _
  change DV Z h50 ka ((List.replicate 2 0).set 1 (bumpA (List.replicate 2 0) 1)) at Q50_VA
  change HV Z h50 ha (pushB ((List.replicate 2 0).set 1 (bumpA (List.replicate 2 0) 1)) 1 (List.replicate 2 0) (List.replicate 2 (-1)) 0).1 at Q50_VH
  change IV Z h50 sa (pushB ((List.replicate 2 0).set 1 (bumpA (List.replicate 2 0) 1)) 1 (List.replicate 2 0) (List.replicate 2 (-1)) 0).2 at Q50_VS
  generalize pushB ((List.replicate 2 0).set 1 (bumpA (List.replicate 2 0) 1)) 1 (List.replicate 2 0) (List.replicate 2 (-1)) 0 = U50 at Q50_VH Q50_VS inv
  rw [show ((List.replicate 2 0).set 1 (bumpA (List.replicate 2 0) 1)) = [0, 4607182418800017408] from (by decide +kernel)] at Q50_VA inv
  have Q50_F_count : Fld Z h50 b "com/example/sightline/sightline/checker/ByActivity" "count" "I" (.int (Int32.ofNat 1)) := Q50_F_count
  refine Jvm.OwnWp.iloadN K d_method_2_5 rfl (pc' := 6) rfl ?_
  refine Jvm.OwnWp.iconst K (1 : Int32) d_method_2_6 (by decide) (pc' := 7) rfl ?_
  refine icY K d_method_2_7 (by decide) (pc' := 15) (by decide) (by decide) ?_
  refine Jvm.OwnWp.iloadN K d_method_2_15 rfl (pc' := 16) rfl ?_
  refine Jvm.OwnWp.iconst K (2 : Int32) d_method_2_16 (by decide) (pc' := 17) rfl ?_
  refine icY K d_method_2_17 (by decide) (pc' := 25) (by decide) (by decide) ?_
  refine retV K rfl d_method_2_25 (Nat.le_of_ble_eq_true rfl) (Nat.le_of_ble_eq_true rfl) ?_
  exact ⟨rfl, P50, ka, ha, sa, _, _, lt_ka, lt_ha, lt_sa, ne_ha_ka, ne_sa_ka, ne_sa_ha, inv.wf, root1 inv.wf inv.pm, Q50_E, Q50_F_act, Q50_F_heap, Q50_F_slot, Q50_F_count, Q50_F_gain, Q50_F_choices, Q50_VA, Q50_VH, Q50_VS⟩
set_option maxRecDepth 65536 in
set_option maxHeartbeats 40000000 in
theorem c_b12 (l : Launch) (Z : State) (a0 : Array Value) (hw : ∀ d ∈ tables_1, d.before a0 Z = true) (ws : List Jvm.Cond) (b : Addr) (h0 : Heap) (n0 : Nat) (Z0 : n0 ≤ h0.size) (E : Exa Z h0 b "com/example/sightline/sightline/checker/ByActivity") (G3 : Fld Z h0 b "com/example/sightline/sightline/checker/ByActivity" "activity" "[D" .null) (G4 : Fld Z h0 b "com/example/sightline/sightline/checker/ByActivity" "heap" "[I" .null) (G5 : Fld Z h0 b "com/example/sightline/sightline/checker/ByActivity" "slot" "[I" .null) (G6 : Fld Z h0 b "com/example/sightline/sightline/checker/ByActivity" "count" "I" (.int (Int32.ofNat 0))) (F_gain : Fld Z h0 b "com/example/sightline/sightline/checker/ByActivity" "gain" "D" (.double 4607182418800017408)) (F_choices : Fld Z h0 b "com/example/sightline/sightline/checker/ByActivity" "choices" "I" (.int (Int32.ofNat 2))) (ge_b : n0 ≤ b) :
    Ctr l Z (⟨"com/example/sightline/sightline/checker/ByActivityDecayPinLaw", "bumps", "(Lcom/example/sightline/sightline/checker/ByActivity;II)V"⟩ : MethodName) method_2_code 3 none ws ({ frames := 4, cells := 3, slots := 15, locals := 54 } : Room) n0 #[(.ref b), (.int (Int32.ofNat 1)), (.int (2 : Int32))] h0 (fun v h => v = none ∧ Keep h0 h [b] ∧ ∃ (ka ha sa : Addr) (Hl : List Nat) (Sl : List Int32), h0.size ≤ ka ∧ h0.size ≤ ha ∧ h0.size ≤ sa ∧ ha ≠ ka ∧ sa ≠ ka ∧ sa ≠ ha ∧ WF 2 1 Hl Sl ∧ Hl.getD 0 0 = 1 ∧ Exa Z h b "com/example/sightline/sightline/checker/ByActivity" ∧ Fld Z h b "com/example/sightline/sightline/checker/ByActivity" "activity" "[D" (.ref ka) ∧ Fld Z h b "com/example/sightline/sightline/checker/ByActivity" "heap" "[I" (.ref ha) ∧ Fld Z h b "com/example/sightline/sightline/checker/ByActivity" "slot" "[I" (.ref sa) ∧ Fld Z h b "com/example/sightline/sightline/checker/ByActivity" "count" "I" (.int (Int32.ofNat 1)) ∧ Fld Z h b "com/example/sightline/sightline/checker/ByActivity" "gain" "D" (.double 4607182418800017408) ∧ Fld Z h b "com/example/sightline/sightline/checker/ByActivity" "choices" "I" (.int (Int32.ofNat 2)) ∧ DV Z h ka [0, 4611686018427387904] ∧ HV Z h ha Hl ∧ IV Z h sa Sl) := by
  refine ctr (own := "com/example/sightline/sightline/checker/ByActivityDecayPinLaw") (nm := "bumps") rfl rfl (Ls := #[.val (.ref b), .val (.int (Int32.ofNat 1)), .val (.int (2 : Int32))]) (plainFor_of_name pn2) (fun m => by first | (simp [entryFrame, mkF, argsToLocals, Value.category]; done) | rfl) ?_
  intro p e s m below meth c K eh
  have P0 := Keep.refl h0 [b]
  refine Jvm.OwnWp.aloadN K d_method_2_0 rfl rfl (pc' := 1) rfl ?_
  refine Jvm.OwnWp.iloadN K d_method_2_1 rfl (pc' := 2) rfl ?_
  obtain ⟨-, g1, g2, inv⟩ := inv_bumpN (N := 2) (c := 1) (by decide) (by decide) (inv_start (by decide)) (by decide) (by simp) (by decide)
  refine callVirt K (y := (⟨"com/example/sightline/sightline/checker/ByActivity", "bump", "(I)V"⟩ : MethodName)) (b := b) (argsL := [(.int (Int32.ofNat 1))]) (S := []) (wd18 hw) (wd19 hw) (wd21 hw) (wd20 hw) (wd3 hw) (wd22 hw) (by decide) E (c_bump0 l Z a0 hw [] b 2 1 4607182418800017408 h0 n0 Z0 (by decide) (by decide) (by decide) g1 g2 E G3 G4 G5 G6 F_gain F_choices ge_b) (lenOf pd1 rfl) d_method_2_2 rfl (Nat.le_of_ble_eq_true rfl) (Nat.le_of_ble_eq_true rfl) (Nat.le_of_ble_eq_true rfl) (Nat.le_of_ble_eq_true rfl) rfl (pc' := 5) rfl ?_
  rintro v51 h51 ⟨rfl, K51, ka, ha, sa, zk, zh, zs, ne_ha_ka, ne_sa_ka, ne_sa_ha, Q51_E, Q51_F_act, Q51_F_heap, Q51_F_slot, Q51_F_count, Q51_F_gain, Q51_F_choices, Q51_VA, Q51_VH, Q51_VS⟩
  have ne_b_ka : b ≠ ka := Nat.ne_of_lt (Nat.lt_of_lt_of_le (Exa.lt E) zk)
  have lt_ka : h0.size ≤ ka := Nat.le_trans P0.1 zk
  have ge_ka : n0 ≤ ka := Nat.le_trans Z0 lt_ka
  have ne_b_ha : b ≠ ha := Nat.ne_of_lt (Nat.lt_of_lt_of_le (Exa.lt E) zh)
  have lt_ha : h0.size ≤ ha := Nat.le_trans P0.1 zh
  have ge_ha : n0 ≤ ha := Nat.le_trans Z0 lt_ha
  have ne_b_sa : b ≠ sa := Nat.ne_of_lt (Nat.lt_of_lt_of_le (Exa.lt E) zs)
  have lt_sa : h0.size ≤ sa := Nat.le_trans P0.1 zs
  have ge_sa : n0 ≤ sa := Nat.le_trans Z0 lt_sa
  have X51_b := (Exa.keep E K51)
  have P51 := (P0.trans K51 (allS (Or.inl (List.mem_of_getElem? (i := 0) rfl)) (all0)))
  show Go _ _ _ _ _ _ _ _ _ _ _ h51 3 15 (mkF m 5 #[.val (.ref b), .val (.int (Int32.ofNat 1)), .val (.int (2 : Int32))] []) _
  change DV Z h51 ka ((List.replicate 2 0).set 1 (bumpA (List.replicate 2 0) 1)) at Q51_VA
  change HV Z h51 ha (pushB ((List.replicate 2 0).set 1 (bumpA (List.replicate 2 0) 1)) 1 (List.replicate 2 0) (List.replicate 2 (-1)) 0).1 at Q51_VH
  change IV Z h51 sa (pushB ((List.replicate 2 0).set 1 (bumpA (List.replicate 2 0) 1)) 1 (List.replicate 2 0) (List.replicate 2 (-1)) 0).2 at Q51_VS
  generalize pushB ((List.replicate 2 0).set 1 (bumpA (List.replicate 2 0) 1)) 1 (List.replicate 2 0) (List.replicate 2 (-1)) 0 = U51 at Q51_VH Q51_VS inv
  rw [show ((List.replicate 2 0).set 1 (bumpA (List.replicate 2 0) 1)) = [0, 4607182418800017408] from (by decide +kernel)] at Q51_VA inv
  have Q51_F_count : Fld Z h51 b "com/example/sightline/sightline/checker/ByActivity" "count" "I" (.int (Int32.ofNat 1)) := Q51_F_count
  refine Jvm.OwnWp.iloadN K d_method_2_5 rfl (pc' := 6) rfl ?_
  refine Jvm.OwnWp.iconst K (1 : Int32) d_method_2_6 (by decide) (pc' := 7) rfl ?_
  refine icN K d_method_2_7 (by decide) (pc' := 10) rfl ?_
  refine Jvm.OwnWp.aloadN K d_method_2_10 rfl rfl (pc' := 11) rfl ?_
  refine Jvm.OwnWp.iloadN K d_method_2_11 rfl (pc' := 12) rfl ?_
  obtain ⟨-, g1, g2, i2, hi2, s1, inv'⟩ := inv_bumpU (c := 1) (by decide) (by decide) inv (by simp)
  refine callVirt K (y := (⟨"com/example/sightline/sightline/checker/ByActivity", "bump", "(I)V"⟩ : MethodName)) (b := b) (argsL := [(.int (Int32.ofNat 1))]) (S := []) (wd18 hw) (wd19 hw) (wd21 hw) (wd20 hw) (wd3 hw) (wd22 hw) (by decide) Q51_E (c_bumpU l Z a0 hw [] b ka ha sa 2 1 4607182418800017408 [0, 4607182418800017408] U51.1 U51.2 1 i2 h51 n0 (Nat.le_trans Z0 P51.1) inv.lA inv.wf.1 inv.wf.2.1 (by decide) (by decide) inv.wf.2.2.2.1 hi2 (by decide) g1 g2 s1 Q51_E Q51_F_act Q51_F_heap Q51_F_slot Q51_F_count Q51_F_gain Q51_F_choices Q51_VA Q51_VH Q51_VS (Ne.symm ne_b_ka) (Ne.symm ne_b_ha) (Ne.symm ne_b_sa) ne_ha_ka ne_sa_ka ne_sa_ha ge_b ge_ka ge_ha ge_sa) (lenOf pd1 rfl) d_method_2_12 rfl (Nat.le_of_ble_eq_true rfl) (Nat.le_of_ble_eq_true rfl) (Nat.le_of_ble_eq_true rfl) (Nat.le_of_ble_eq_true rfl) rfl (pc' := 15) rfl ?_
  rintro v52 h52 ⟨rfl, K52, Q52_E, Q52_F_act, Q52_F_heap, Q52_F_slot, Q52_F_count, Q52_F_gain, Q52_F_choices, Q52_VA, Q52_VH, Q52_VS⟩
  have X52_b := (Exa.keep Q51_E K52)
  have P52 := (P51.trans K52 (allS (Or.inl (List.mem_of_getElem? (i := 0) rfl)) (allS (Or.inr lt_ka) (allS (Or.inr lt_ha) (allS (Or.inr lt_sa) (all0))))))
  show Go _ _ _ _ _ _ _ _ _ _ _ h52 3 15 (mkF m 15 #[.val (.ref b), .val (.int (Int32.ofNat 1)), .val (.int (2 : Int32))] []) _
  replace inv := inv'
  change DV Z h52 ka ([0, 4607182418800017408].set 1 (bumpA [0, 4607182418800017408] 1)) at Q52_VA
  change HV Z h52 ha (upB ([0, 4607182418800017408].set 1 (bumpA [0, 4607182418800017408] 1)) (U51.1.getD i2 0) U51.1 U51.2 i2).1 at Q52_VH
  change IV Z h52 sa (upB ([0, 4607182418800017408].set 1 (bumpA [0, 4607182418800017408] 1)) (U51.1.getD i2 0) U51.1 U51.2 i2).2 at Q52_VS
  generalize upB ([0, 4607182418800017408].set 1 (bumpA [0, 4607182418800017408] 1)) (U51.1.getD i2 0) U51.1 U51.2 i2 = U52 at Q52_VH Q52_VS inv
  rw [show ([0, 4607182418800017408].set 1 (bumpA [0, 4607182418800017408] 1)) = [0, 4611686018427387904] from (by decide +kernel)] at Q52_VA inv
  have Q52_F_count : Fld Z h52 b "com/example/sightline/sightline/checker/ByActivity" "count" "I" (.int (Int32.ofNat 1)) := Q52_F_count
  refine Jvm.OwnWp.iloadN K d_method_2_15 rfl (pc' := 16) rfl ?_
  refine Jvm.OwnWp.iconst K (2 : Int32) d_method_2_16 (by decide) (pc' := 17) rfl ?_
  refine icY K d_method_2_17 (by decide) (pc' := 25) (by decide) (by decide) ?_
  refine retV K rfl d_method_2_25 (Nat.le_of_ble_eq_true rfl) (Nat.le_of_ble_eq_true rfl) ?_
  exact ⟨rfl, P52, ka, ha, sa, _, _, lt_ka, lt_ha, lt_sa, ne_ha_ka, ne_sa_ka, ne_sa_ha, inv.wf, root1 inv.wf inv.pm, Q52_E, Q52_F_act, Q52_F_heap, Q52_F_slot, Q52_F_count, Q52_F_gain, Q52_F_choices, Q52_VA, Q52_VH, Q52_VS⟩
set_option maxRecDepth 65536 in
set_option maxHeartbeats 40000000 in
theorem c_b13 (l : Launch) (Z : State) (a0 : Array Value) (hw : ∀ d ∈ tables_1, d.before a0 Z = true) (ws : List Jvm.Cond) (b : Addr) (h0 : Heap) (n0 : Nat) (Z0 : n0 ≤ h0.size) (E : Exa Z h0 b "com/example/sightline/sightline/checker/ByActivity") (G3 : Fld Z h0 b "com/example/sightline/sightline/checker/ByActivity" "activity" "[D" .null) (G4 : Fld Z h0 b "com/example/sightline/sightline/checker/ByActivity" "heap" "[I" .null) (G5 : Fld Z h0 b "com/example/sightline/sightline/checker/ByActivity" "slot" "[I" .null) (G6 : Fld Z h0 b "com/example/sightline/sightline/checker/ByActivity" "count" "I" (.int (Int32.ofNat 0))) (F_gain : Fld Z h0 b "com/example/sightline/sightline/checker/ByActivity" "gain" "D" (.double 4607182418800017408)) (F_choices : Fld Z h0 b "com/example/sightline/sightline/checker/ByActivity" "choices" "I" (.int (Int32.ofNat 2))) (ge_b : n0 ≤ b) :
    Ctr l Z (⟨"com/example/sightline/sightline/checker/ByActivityDecayPinLaw", "bumps", "(Lcom/example/sightline/sightline/checker/ByActivity;II)V"⟩ : MethodName) method_2_code 3 none ws ({ frames := 4, cells := 3, slots := 15, locals := 54 } : Room) n0 #[(.ref b), (.int (Int32.ofNat 1)), (.int (3 : Int32))] h0 (fun v h => v = none ∧ Keep h0 h [b] ∧ ∃ (ka ha sa : Addr) (Hl : List Nat) (Sl : List Int32), h0.size ≤ ka ∧ h0.size ≤ ha ∧ h0.size ≤ sa ∧ ha ≠ ka ∧ sa ≠ ka ∧ sa ≠ ha ∧ WF 2 1 Hl Sl ∧ Hl.getD 0 0 = 1 ∧ Exa Z h b "com/example/sightline/sightline/checker/ByActivity" ∧ Fld Z h b "com/example/sightline/sightline/checker/ByActivity" "activity" "[D" (.ref ka) ∧ Fld Z h b "com/example/sightline/sightline/checker/ByActivity" "heap" "[I" (.ref ha) ∧ Fld Z h b "com/example/sightline/sightline/checker/ByActivity" "slot" "[I" (.ref sa) ∧ Fld Z h b "com/example/sightline/sightline/checker/ByActivity" "count" "I" (.int (Int32.ofNat 1)) ∧ Fld Z h b "com/example/sightline/sightline/checker/ByActivity" "gain" "D" (.double 4607182418800017408) ∧ Fld Z h b "com/example/sightline/sightline/checker/ByActivity" "choices" "I" (.int (Int32.ofNat 2)) ∧ DV Z h ka [0, 4613937818241073152] ∧ HV Z h ha Hl ∧ IV Z h sa Sl) := by
  refine ctr (own := "com/example/sightline/sightline/checker/ByActivityDecayPinLaw") (nm := "bumps") rfl rfl (Ls := #[.val (.ref b), .val (.int (Int32.ofNat 1)), .val (.int (3 : Int32))]) (plainFor_of_name pn2) (fun m => by first | (simp [entryFrame, mkF, argsToLocals, Value.category]; done) | rfl) ?_
  intro p e s m below meth c K eh
  have P0 := Keep.refl h0 [b]
  refine Jvm.OwnWp.aloadN K d_method_2_0 rfl rfl (pc' := 1) rfl ?_
  refine Jvm.OwnWp.iloadN K d_method_2_1 rfl (pc' := 2) rfl ?_
  obtain ⟨-, g1, g2, inv⟩ := inv_bumpN (N := 2) (c := 1) (by decide) (by decide) (inv_start (by decide)) (by decide) (by simp) (by decide)
  refine callVirt K (y := (⟨"com/example/sightline/sightline/checker/ByActivity", "bump", "(I)V"⟩ : MethodName)) (b := b) (argsL := [(.int (Int32.ofNat 1))]) (S := []) (wd18 hw) (wd19 hw) (wd21 hw) (wd20 hw) (wd3 hw) (wd22 hw) (by decide) E (c_bump0 l Z a0 hw [] b 2 1 4607182418800017408 h0 n0 Z0 (by decide) (by decide) (by decide) g1 g2 E G3 G4 G5 G6 F_gain F_choices ge_b) (lenOf pd1 rfl) d_method_2_2 rfl (Nat.le_of_ble_eq_true rfl) (Nat.le_of_ble_eq_true rfl) (Nat.le_of_ble_eq_true rfl) (Nat.le_of_ble_eq_true rfl) rfl (pc' := 5) rfl ?_
  rintro v53 h53 ⟨rfl, K53, ka, ha, sa, zk, zh, zs, ne_ha_ka, ne_sa_ka, ne_sa_ha, Q53_E, Q53_F_act, Q53_F_heap, Q53_F_slot, Q53_F_count, Q53_F_gain, Q53_F_choices, Q53_VA, Q53_VH, Q53_VS⟩
  have ne_b_ka : b ≠ ka := Nat.ne_of_lt (Nat.lt_of_lt_of_le (Exa.lt E) zk)
  have lt_ka : h0.size ≤ ka := Nat.le_trans P0.1 zk
  have ge_ka : n0 ≤ ka := Nat.le_trans Z0 lt_ka
  have ne_b_ha : b ≠ ha := Nat.ne_of_lt (Nat.lt_of_lt_of_le (Exa.lt E) zh)
  have lt_ha : h0.size ≤ ha := Nat.le_trans P0.1 zh
  have ge_ha : n0 ≤ ha := Nat.le_trans Z0 lt_ha
  have ne_b_sa : b ≠ sa := Nat.ne_of_lt (Nat.lt_of_lt_of_le (Exa.lt E) zs)
  have lt_sa : h0.size ≤ sa := Nat.le_trans P0.1 zs
  have ge_sa : n0 ≤ sa := Nat.le_trans Z0 lt_sa
  have X53_b := (Exa.keep E K53)
  have P53 := (P0.trans K53 (allS (Or.inl (List.mem_of_getElem? (i := 0) rfl)) (all0)))
  show Go _ _ _ _ _ _ _ _ _ _ _ h53 3 15 (mkF m 5 #[.val (.ref b), .val (.int (Int32.ofNat 1)), .val (.int (3 : Int32))] []) _
  change DV Z h53 ka ((List.replicate 2 0).set 1 (bumpA (List.replicate 2 0) 1)) at Q53_VA
  change HV Z h53 ha (pushB ((List.replicate 2 0).set 1 (bumpA (List.replicate 2 0) 1)) 1 (List.replicate 2 0) (List.replicate 2 (-1)) 0).1 at Q53_VH
  change IV Z h53 sa (pushB ((List.replicate 2 0).set 1 (bumpA (List.replicate 2 0) 1)) 1 (List.replicate 2 0) (List.replicate 2 (-1)) 0).2 at Q53_VS
  generalize pushB ((List.replicate 2 0).set 1 (bumpA (List.replicate 2 0) 1)) 1 (List.replicate 2 0) (List.replicate 2 (-1)) 0 = U53 at Q53_VH Q53_VS inv
  rw [show ((List.replicate 2 0).set 1 (bumpA (List.replicate 2 0) 1)) = [0, 4607182418800017408] from (by decide +kernel)] at Q53_VA inv
  have Q53_F_count : Fld Z h53 b "com/example/sightline/sightline/checker/ByActivity" "count" "I" (.int (Int32.ofNat 1)) := Q53_F_count
  refine Jvm.OwnWp.iloadN K d_method_2_5 rfl (pc' := 6) rfl ?_
  refine Jvm.OwnWp.iconst K (1 : Int32) d_method_2_6 (by decide) (pc' := 7) rfl ?_
  refine icN K d_method_2_7 (by decide) (pc' := 10) rfl ?_
  refine Jvm.OwnWp.aloadN K d_method_2_10 rfl rfl (pc' := 11) rfl ?_
  refine Jvm.OwnWp.iloadN K d_method_2_11 rfl (pc' := 12) rfl ?_
  obtain ⟨-, g1, g2, i2, hi2, s1, inv'⟩ := inv_bumpU (c := 1) (by decide) (by decide) inv (by simp)
  refine callVirt K (y := (⟨"com/example/sightline/sightline/checker/ByActivity", "bump", "(I)V"⟩ : MethodName)) (b := b) (argsL := [(.int (Int32.ofNat 1))]) (S := []) (wd18 hw) (wd19 hw) (wd21 hw) (wd20 hw) (wd3 hw) (wd22 hw) (by decide) Q53_E (c_bumpU l Z a0 hw [] b ka ha sa 2 1 4607182418800017408 [0, 4607182418800017408] U53.1 U53.2 1 i2 h53 n0 (Nat.le_trans Z0 P53.1) inv.lA inv.wf.1 inv.wf.2.1 (by decide) (by decide) inv.wf.2.2.2.1 hi2 (by decide) g1 g2 s1 Q53_E Q53_F_act Q53_F_heap Q53_F_slot Q53_F_count Q53_F_gain Q53_F_choices Q53_VA Q53_VH Q53_VS (Ne.symm ne_b_ka) (Ne.symm ne_b_ha) (Ne.symm ne_b_sa) ne_ha_ka ne_sa_ka ne_sa_ha ge_b ge_ka ge_ha ge_sa) (lenOf pd1 rfl) d_method_2_12 rfl (Nat.le_of_ble_eq_true rfl) (Nat.le_of_ble_eq_true rfl) (Nat.le_of_ble_eq_true rfl) (Nat.le_of_ble_eq_true rfl) rfl (pc' := 15) rfl ?_
  rintro v54 h54 ⟨rfl, K54, Q54_E, Q54_F_act, Q54_F_heap, Q54_F_slot, Q54_F_count, Q54_F_gain, Q54_F_choices, Q54_VA, Q54_VH, Q54_VS⟩
  have X54_b := (Exa.keep Q53_E K54)
  have P54 := (P53.trans K54 (allS (Or.inl (List.mem_of_getElem? (i := 0) rfl)) (allS (Or.inr lt_ka) (allS (Or.inr lt_ha) (allS (Or.inr lt_sa) (all0))))))
  show Go _ _ _ _ _ _ _ _ _ _ _ h54 3 15 (mkF m 15 #[.val (.ref b), .val (.int (Int32.ofNat 1)), .val (.int (3 : Int32))] []) _
  replace inv := inv'
  change DV Z h54 ka ([0, 4607182418800017408].set 1 (bumpA [0, 4607182418800017408] 1)) at Q54_VA
  change HV Z h54 ha (upB ([0, 4607182418800017408].set 1 (bumpA [0, 4607182418800017408] 1)) (U53.1.getD i2 0) U53.1 U53.2 i2).1 at Q54_VH
  change IV Z h54 sa (upB ([0, 4607182418800017408].set 1 (bumpA [0, 4607182418800017408] 1)) (U53.1.getD i2 0) U53.1 U53.2 i2).2 at Q54_VS
  generalize upB ([0, 4607182418800017408].set 1 (bumpA [0, 4607182418800017408] 1)) (U53.1.getD i2 0) U53.1 U53.2 i2 = U54 at Q54_VH Q54_VS inv
  rw [show ([0, 4607182418800017408].set 1 (bumpA [0, 4607182418800017408] 1)) = [0, 4611686018427387904] from (by decide +kernel)] at Q54_VA inv
  have Q54_F_count : Fld Z h54 b "com/example/sightline/sightline/checker/ByActivity" "count" "I" (.int (Int32.ofNat 1)) := Q54_F_count
  refine Jvm.OwnWp.iloadN K d_method_2_15 rfl (pc' := 16) rfl ?_
  refine Jvm.OwnWp.iconst K (2 : Int32) d_method_2_16 (by decide) (pc' := 17) rfl ?_
  refine icN K d_method_2_17 (by decide) (pc' := 20) rfl ?_
  refine Jvm.OwnWp.aloadN K d_method_2_20 rfl rfl (pc' := 21) rfl ?_
  refine Jvm.OwnWp.iloadN K d_method_2_21 rfl (pc' := 22) rfl ?_
  obtain ⟨-, g1, g2, i3, hi3, s1, inv'⟩ := inv_bumpU (c := 1) (by decide) (by decide) inv (by simp)
  refine callVirt K (y := (⟨"com/example/sightline/sightline/checker/ByActivity", "bump", "(I)V"⟩ : MethodName)) (b := b) (argsL := [(.int (Int32.ofNat 1))]) (S := []) (wd18 hw) (wd19 hw) (wd21 hw) (wd20 hw) (wd3 hw) (wd22 hw) (by decide) Q54_E (c_bumpU l Z a0 hw [] b ka ha sa 2 1 4607182418800017408 [0, 4611686018427387904] U54.1 U54.2 1 i3 h54 n0 (Nat.le_trans Z0 P54.1) inv.lA inv.wf.1 inv.wf.2.1 (by decide) (by decide) inv.wf.2.2.2.1 hi3 (by decide) g1 g2 s1 Q54_E Q54_F_act Q54_F_heap Q54_F_slot Q54_F_count Q54_F_gain Q54_F_choices Q54_VA Q54_VH Q54_VS (Ne.symm ne_b_ka) (Ne.symm ne_b_ha) (Ne.symm ne_b_sa) ne_ha_ka ne_sa_ka ne_sa_ha ge_b ge_ka ge_ha ge_sa) (lenOf pd1 rfl) d_method_2_22 rfl (Nat.le_of_ble_eq_true rfl) (Nat.le_of_ble_eq_true rfl) (Nat.le_of_ble_eq_true rfl) (Nat.le_of_ble_eq_true rfl) rfl (pc' := 25) rfl ?_
  rintro v55 h55 ⟨rfl, K55, Q55_E, Q55_F_act, Q55_F_heap, Q55_F_slot, Q55_F_count, Q55_F_gain, Q55_F_choices, Q55_VA, Q55_VH, Q55_VS⟩
  have X55_b := (Exa.keep Q54_E K55)
  have P55 := (P54.trans K55 (allS (Or.inl (List.mem_of_getElem? (i := 0) rfl)) (allS (Or.inr lt_ka) (allS (Or.inr lt_ha) (allS (Or.inr lt_sa) (all0))))))
  show Go _ _ _ _ _ _ _ _ _ _ _ h55 3 15 (mkF m 25 #[.val (.ref b), .val (.int (Int32.ofNat 1)), .val (.int (3 : Int32))] []) _
  replace inv := inv'
  change DV Z h55 ka ([0, 4611686018427387904].set 1 (bumpA [0, 4611686018427387904] 1)) at Q55_VA
  change HV Z h55 ha (upB ([0, 4611686018427387904].set 1 (bumpA [0, 4611686018427387904] 1)) (U54.1.getD i3 0) U54.1 U54.2 i3).1 at Q55_VH
  change IV Z h55 sa (upB ([0, 4611686018427387904].set 1 (bumpA [0, 4611686018427387904] 1)) (U54.1.getD i3 0) U54.1 U54.2 i3).2 at Q55_VS
  generalize upB ([0, 4611686018427387904].set 1 (bumpA [0, 4611686018427387904] 1)) (U54.1.getD i3 0) U54.1 U54.2 i3 = U55 at Q55_VH Q55_VS inv
  rw [show ([0, 4611686018427387904].set 1 (bumpA [0, 4611686018427387904] 1)) = [0, 4613937818241073152] from (by decide +kernel)] at Q55_VA inv
  have Q55_F_count : Fld Z h55 b "com/example/sightline/sightline/checker/ByActivity" "count" "I" (.int (Int32.ofNat 1)) := Q55_F_count
  refine retV K rfl d_method_2_25 (Nat.le_of_ble_eq_true rfl) (Nat.le_of_ble_eq_true rfl) ?_
  exact ⟨rfl, P55, ka, ha, sa, _, _, lt_ka, lt_ha, lt_sa, ne_ha_ka, ne_sa_ka, ne_sa_ha, inv.wf, root1 inv.wf inv.pm, Q55_E, Q55_F_act, Q55_F_heap, Q55_F_slot, Q55_F_count, Q55_F_gain, Q55_F_choices, Q55_VA, Q55_VH, Q55_VS⟩
set_option maxRecDepth 65536 in
set_option maxHeartbeats 40000000 in
theorem c_law (l : Launch) (Z : State) (a0 : Array Value) (hw : ∀ d ∈ tables_1, d.before a0 Z = true) (ws : List Jvm.Cond) (p0 p1 p2 : Int32) (h0 : Heap) (n0 : Nat) (Z0 : n0 ≤ h0.size) :
    Ctr l Z x code maxLocals ret ws room_1 n0 #[(.int p0), (.int p1), (.int p2)] h0 (fun v h => v = some (.int 1)) := by
  refine ctr (own := "com/example/sightline/sightline/checker/ByActivityDecayPinLaw") (nm := "law") rfl rfl (Ls := #[.val (.int p0), .val (.int p1), .val (.int p2), .unset, .unset, .unset, .unset, .unset, .unset, .unset]) (plainFor_of_name pn2) (fun m => by first | (simp [entryFrame, mkF, argsToLocals, Value.category, maxLocals]; done) | rfl) ?_
  intro p e s m below meth c K eh
  have P0 := Keep.refl h0 []
  rcases own_a p0 with qa | qa
  · rcases own_m p1 with qm | qm | qm
    · rcases own_k p2 with qk | qk | qk | qk | qk
      · refine Jvm.OwnWp.iloadN K at_0 rfl (pc' := 1) rfl ?_
        refine Jvm.OwnWp.iconst K (1 : Int32) at_1 (by decide) (pc' := 2) rfl ?_
        refine Jvm.OwnWp.iand K at_2 (pc' := 3) rfl ?_
        rw [qa]
        refine Jvm.OwnWp.istoreN K at_3 (Ls' := #[.val (.int p0), .val (.int p1), .val (.int p2), .val (.int (0 : Int32)), .unset, .unset, .unset, .unset, .unset, .unset]) rfl (pc' := 4) rfl ?_
        refine Jvm.OwnWp.iconst K (1 : Int32) at_4 (by decide) (pc' := 5) rfl ?_
        refine Jvm.OwnWp.iloadN K at_5 rfl (pc' := 6) rfl ?_
        refine Jvm.OwnWp.isub K at_6 (pc' := 7) rfl ?_
        rw [show (1 : Int32) - 0 = 1 by decide]
        refine Jvm.OwnWp.istore K at_7 (Ls' := #[.val (.int p0), .val (.int p1), .val (.int p2), .val (.int (0 : Int32)), .val (.int (1 : Int32)), .unset, .unset, .unset, .unset, .unset]) rfl (pc' := 9) rfl ?_
        refine Jvm.OwnWp.iconst K (1 : Int32) at_9 (by decide) (pc' := 10) rfl ?_
        refine Jvm.OwnWp.iloadN K at_10 rfl (pc' := 11) rfl ?_
        refine Jvm.OwnWp.ldcI K (wd0 hw) at_11 (pc' := 13) rfl ?_
        refine Jvm.OwnWp.iand K at_13 (pc' := 14) rfl ?_
        refine Jvm.OwnWp.iconst K (3 : Int32) at_14 (by decide) (pc' := 15) rfl ?_
        refine Jvm.OwnWp.irem K at_15 (by decide) (pc' := 16) rfl ?_
        rw [qm]
        refine Jvm.OwnWp.iadd K at_16 (pc' := 17) rfl ?_
        rw [show (1 : Int32) + 0 = 1 by decide]
        refine Jvm.OwnWp.istore K at_17 (Ls' := #[.val (.int p0), .val (.int p1), .val (.int p2), .val (.int (0 : Int32)), .val (.int (1 : Int32)), .val (.int (1 : Int32)), .unset, .unset, .unset, .unset]) rfl (pc' := 19) rfl ?_
        refine Jvm.OwnWp.iloadN K at_19 rfl (pc' := 20) rfl ?_
        refine Jvm.OwnWp.ldcI K (wd0 hw) at_20 (pc' := 22) rfl ?_
        refine Jvm.OwnWp.iand K at_22 (pc' := 23) rfl ?_
        refine Jvm.OwnWp.iconst K (5 : Int32) at_23 (by decide) (pc' := 24) rfl ?_
        refine Jvm.OwnWp.irem K at_24 (by decide) (pc' := 25) rfl ?_
        rw [qk]
        refine Jvm.OwnWp.istore K at_25 (Ls' := #[.val (.int p0), .val (.int p1), .val (.int p2), .val (.int (0 : Int32)), .val (.int (1 : Int32)), .val (.int (1 : Int32)), .val (.int (0 : Int32)), .unset, .unset, .unset]) rfl (pc' := 27) rfl ?_
        refine newObj K (wd1 hw) (wd2 hw) (wd3 hw) at_27 (by decide) (by decide) (pc' := 30) rfl ?_
        intro h56 b56 g56 E56 A56 D56
        have lt_b56 : h0.size ≤ b56 := Nat.le_trans P0.1 (Nat.le_of_eq g56.symm)
        have ge_b56 : n0 ≤ b56 := Nat.le_trans Z0 lt_b56
        have P56 := (P0.ext E56)
        have F56_gain_b56 : Fld Z h56 b56 "com/example/sightline/sightline/checker/ByActivity" "gain" "D" (.double (0 : UInt64)) := D56 (Or.inl (wd11 hw)) (ty := .double) (by decide)
        have F56_choices_b56 : Fld Z h56 b56 "com/example/sightline/sightline/checker/ByActivity" "choices" "I" (.int (0 : Int32)) := D56 (Or.inr (wd13 hw)) (ty := .int) (by decide)
        have F56_activity_b56 : Fld Z h56 b56 "com/example/sightline/sightline/checker/ByActivity" "activity" "[D" .null := D56 (Or.inl (wd24 hw)) (ty := (.array .double)) (by decide)
        have F56_heap_b56 : Fld Z h56 b56 "com/example/sightline/sightline/checker/ByActivity" "heap" "[I" .null := D56 (Or.inl (wd28 hw)) (ty := (.array .int)) (by decide)
        have F56_slot_b56 : Fld Z h56 b56 "com/example/sightline/sightline/checker/ByActivity" "slot" "[I" .null := D56 (Or.inl (wd30 hw)) (ty := (.array .int)) (by decide)
        have F56_count_b56 : Fld Z h56 b56 "com/example/sightline/sightline/checker/ByActivity" "count" "I" (.int (0 : Int32)) := D56 (Or.inl (wd42 hw)) (ty := .int) (by decide)
        refine Jvm.OwnWp.dup K at_30 rfl (pc' := 31) rfl ?_
        refine Jvm.OwnWp.iconst K (2 : Int32) at_31 (by decide) (pc' := 32) rfl ?_
        refine callInit K (y := (⟨"com/example/sightline/sightline/checker/ByActivity", "<init>", "(I)V"⟩ : MethodName)) (b := b56) (argsL := [(.int (2 : Int32))]) (S := [(.ref b56)]) rfl (wd4 hw) (wd5 hw) (wd3 hw) (wd6 hw) rfl (by decide) (c_init l Z a0 hw [] b56 2 h56 n0 (Nat.le_trans Z0 P56.1) A56 ge_b56 F56_gain_b56 F56_choices_b56 F56_activity_b56 F56_heap_b56 F56_slot_b56 F56_count_b56) (lenOf pd1 rfl) at_32 rfl (Nat.le_of_ble_eq_true rfl) (Nat.le_of_ble_eq_true rfl) (Nat.le_of_ble_eq_true rfl) (Nat.le_of_ble_eq_true rfl) rfl (pc' := 35) rfl ?_
        rintro v57 h57 ⟨rfl, K57, I57_gain, I57_choices, I57_activity, I57_heap, I57_slot, I57_count⟩
        have X57_b56 := (Exa.keep A56 K57)
        have P57 := (P56.trans K57 (allS (Or.inr lt_b56) (all0)))
        show Go _ _ _ _ _ _ _ _ _ _ _ h57 1 6 (mkF m 35 #[.val (.int p0), .val (.int p1), .val (.int p2), .val (.int (0 : Int32)), .val (.int (1 : Int32)), .val (.int (1 : Int32)), .val (.int (0 : Int32)), .unset, .unset, .unset] [(.ref b56)]) _
        refine Jvm.OwnWp.astore K at_35 rfl (Ls' := #[.val (.int p0), .val (.int p1), .val (.int p2), .val (.int (0 : Int32)), .val (.int (1 : Int32)), .val (.int (1 : Int32)), .val (.int (0 : Int32)), .val (.ref b56), .unset, .unset]) rfl (pc' := 37) rfl ?_
        refine Jvm.OwnWp.aload K at_37 rfl rfl (pc' := 39) rfl ?_
        refine Jvm.OwnWp.iloadN K at_39 rfl (pc' := 40) rfl ?_
        refine Jvm.OwnWp.iload K at_40 rfl (pc' := 42) rfl ?_
        refine callStatic K (y := (⟨"com/example/sightline/sightline/checker/ByActivityDecayPinLaw", "bumps", "(Lcom/example/sightline/sightline/checker/ByActivity;II)V"⟩ : MethodName)) (argsL := [(.ref b56), (.int (0 : Int32)), (.int (1 : Int32))]) (S := []) (wd14 hw) (wd15 hw) (wd16 hw) (wd17 hw) (by decide) (c_b01 l Z a0 hw [] b56 h57 n0 (Nat.le_trans Z0 P57.1) X57_b56 I57_activity I57_heap I57_slot I57_count I57_gain I57_choices ge_b56) (lenOf pd4 rfl) at_42 rfl (Nat.le_of_ble_eq_true rfl) (Nat.le_of_ble_eq_true rfl) (Nat.le_of_ble_eq_true rfl) (Nat.le_of_ble_eq_true rfl) rfl (pc' := 45) rfl ?_
        rintro v58 h58 ⟨rfl, K58, ka, ha, sa, Hl, Sl, zk, zh, zs, ne_ha_ka, ne_sa_ka, ne_sa_ha, wf, rt, Q58_E, Q58_F_act, Q58_F_heap, Q58_F_slot, Q58_F_count, Q58_F_gain, Q58_F_choices, Q58_VA, Q58_VH, Q58_VS⟩
        have ne_b56_ka : b56 ≠ ka := Nat.ne_of_lt (Nat.lt_of_lt_of_le (Exa.lt X57_b56) zk)
        have lt_ka : h0.size ≤ ka := Nat.le_trans P57.1 zk
        have ge_ka : n0 ≤ ka := Nat.le_trans Z0 lt_ka
        have ne_b56_ha : b56 ≠ ha := Nat.ne_of_lt (Nat.lt_of_lt_of_le (Exa.lt X57_b56) zh)
        have lt_ha : h0.size ≤ ha := Nat.le_trans P57.1 zh
        have ge_ha : n0 ≤ ha := Nat.le_trans Z0 lt_ha
        have ne_b56_sa : b56 ≠ sa := Nat.ne_of_lt (Nat.lt_of_lt_of_le (Exa.lt X57_b56) zs)
        have lt_sa : h0.size ≤ sa := Nat.le_trans P57.1 zs
        have ge_sa : n0 ≤ sa := Nat.le_trans Z0 lt_sa
        have X58_b56 := (Exa.keep X57_b56 K58)
        have P58 := (P57.trans K58 (allS (Or.inr lt_b56) (all0)))
        show Go _ _ _ _ _ _ _ _ _ _ _ h58 4 21 (mkF m 45 #[.val (.int p0), .val (.int p1), .val (.int p2), .val (.int (0 : Int32)), .val (.int (1 : Int32)), .val (.int (1 : Int32)), .val (.int (0 : Int32)), .val (.ref b56), .unset, .unset] []) _
        refine Jvm.OwnWp.aload K at_45 rfl rfl (pc' := 47) rfl ?_
        refine Jvm.OwnWp.iload K at_47 rfl (pc' := 49) rfl ?_
        refine callStatic K (y := (⟨"com/example/sightline/sightline/checker/ByActivityDecayPinLaw", "decays", "(Lcom/example/sightline/sightline/checker/ByActivity;I)V"⟩ : MethodName)) (argsL := [(.ref b56), (.int (0 : Int32))]) (S := []) (wd51 hw) (wd52 hw) (wd16 hw) (wd53 hw) (by decide) (c_dec0 l Z a0 hw [] b56 ka ha sa h58 n0 (Nat.le_trans Z0 P58.1) Q58_E Q58_F_act Q58_F_heap Q58_F_slot Q58_F_count Q58_F_gain Q58_F_choices ge_b56) (lenOf pd5 rfl) at_49 rfl (Nat.le_of_ble_eq_true rfl) (Nat.le_of_ble_eq_true rfl) (Nat.le_of_ble_eq_true rfl) (Nat.le_of_ble_eq_true rfl) rfl (pc' := 52) rfl ?_
        rintro v59 h59 ⟨rfl, K59, Q59_F_act, Q59_F_heap, Q59_F_slot, Q59_F_count, Q59_F_gain, Q59_F_choices⟩
        have X59_b56 := (Exa.keep Q58_E K59)
        have V59_ka := (Q58_VA.keep K59 (ninS (Ne.symm ne_b56_ka) (nin0)))
        have V59_ha := (Q58_VH.keep K59 (ninS (Ne.symm ne_b56_ha) (nin0)))
        have V59_sa := (Q58_VS.keep K59 (ninS (Ne.symm ne_b56_sa) (nin0)))
        have P59 := (P58.trans K59 (allS (Or.inr lt_b56) (all0)))
        show Go _ _ _ _ _ _ _ _ _ _ _ h59 4 21 (mkF m 52 #[.val (.int p0), .val (.int p1), .val (.int p2), .val (.int (0 : Int32)), .val (.int (1 : Int32)), .val (.int (1 : Int32)), .val (.int (0 : Int32)), .val (.ref b56), .unset, .unset] []) _
        refine Jvm.OwnWp.aload K at_52 rfl rfl (pc' := 54) rfl ?_
        refine Jvm.OwnWp.iload K at_54 rfl (pc' := 56) rfl ?_
        refine callVirt K (y := (⟨"com/example/sightline/sightline/checker/ByActivity", "bump", "(I)V"⟩ : MethodName)) (b := b56) (argsL := [(.int (1 : Int32))]) (S := []) (wd18 hw) (wd19 hw) (wd21 hw) (wd20 hw) (wd3 hw) (wd22 hw) (by decide) X59_b56 (c_bumpN l Z a0 hw [] b56 ka ha sa 2 1 4607182418800017408 [4607182418800017408, 0] Hl Sl 1 h59 n0 (Nat.le_trans Z0 P59.1) rfl wf.1 wf.2.1 (by decide) (by decide) wf.2.2.2.1 (by decide) (by decide) (Jvm.Free.Fl.val64_no.mpr (by decide +kernel)) (by decide +kernel) (abs1 wf rt (by decide) (by decide)) X59_b56 Q59_F_act Q59_F_heap Q59_F_slot Q59_F_count Q59_F_gain Q59_F_choices V59_ka V59_ha V59_sa (Ne.symm ne_b56_ka) (Ne.symm ne_b56_ha) (Ne.symm ne_b56_sa) ne_ha_ka ne_sa_ka ne_sa_ha ge_b56 ge_ka ge_ha ge_sa) (lenOf pd1 rfl) at_56 rfl (Nat.le_of_ble_eq_true rfl) (Nat.le_of_ble_eq_true rfl) (Nat.le_of_ble_eq_true rfl) (Nat.le_of_ble_eq_true rfl) rfl (pc' := 59) rfl ?_
        rintro v60 h60 ⟨rfl, K60, Q60_E, Q60_F_act, Q60_F_heap, Q60_F_slot, Q60_F_count, Q60_F_gain, Q60_F_choices, Q60_VA, Q60_VH, Q60_VS⟩
        have X60_b56 := (Exa.keep X59_b56 K60)
        have P60 := (P59.trans K60 (allS (Or.inr lt_b56) (allS (Or.inr lt_ka) (allS (Or.inr lt_ha) (allS (Or.inr lt_sa) (all0))))))
        show Go _ _ _ _ _ _ _ _ _ _ _ h60 4 21 (mkF m 59 #[.val (.int p0), .val (.int p1), .val (.int p2), .val (.int (0 : Int32)), .val (.int (1 : Int32)), .val (.int (1 : Int32)), .val (.int (0 : Int32)), .val (.ref b56), .unset, .unset] []) _
        rw [show ([4607182418800017408, 0].set 1 (FP.dadd ([4607182418800017408, 0].getD 1 0) 4607182418800017408)) = [4607182418800017408, 4607182418800017408] from (by decide +kernel)] at Q60_VA Q60_VH Q60_VS
        have hA2 : Nums [4607182418800017408, 4607182418800017408] := nums2 (by unfold Jvm.OwnHeap.Num; decide +kernel) (by unfold Jvm.OwnHeap.Num; decide +kernel)
        have wf2 := (push_spec (by decide) hA2 wf ord1 (by decide) (by decide : 1 < 2) (abs1 wf rt (by decide) (by decide))).1
        have rt2 := push_root (A := [4607182418800017408, 4607182418800017408]) (c := 1) (S := Sl) wf.1 rt
        rw [if_neg (by decide +kernel)] at rt2
        generalize pushB [4607182418800017408, 4607182418800017408] 1 Hl Sl 1 = U60 at *
        have Q60_F_count : Fld Z h60 b56 "com/example/sightline/sightline/checker/ByActivity" "count" "I" (.int (Int32.ofNat 2)) := Q60_F_count
        refine Jvm.OwnWp.iload K at_59 rfl (pc' := 61) rfl ?_
        refine Jvm.OwnWp.iconst K (1 : Int32) at_61 (by decide) (pc' := 62) rfl ?_
        refine icN K at_62 (by decide) (pc' := 65) rfl ?_
        refine Jvm.OwnWp.iload K at_65 rfl (pc' := 67) rfl ?_
        refine Jvm.OwnWp.iconst K (1 : Int32) at_67 (by decide) (pc' := 68) rfl ?_
        refine icN K at_68 (by decide) (pc' := 71) rfl ?_
        refine Jvm.OwnWp.iload K at_71 rfl (pc' := 73) rfl ?_
        refine Jvm.OwnWp.iconst K (2 : Int32) at_73 (by decide) (pc' := 74) rfl ?_
        refine icY K at_74 (by decide) (pc' := 83) (by decide) (by decide) ?_
        refine Jvm.OwnWp.iload K at_83 rfl (pc' := 85) rfl ?_
        refine Jvm.OwnWp.iconst K (3 : Int32) at_85 (by decide) (pc' := 86) rfl ?_
        refine icY K at_86 (by decide) (pc' := 99) (by decide) (by decide) ?_
        refine Jvm.OwnWp.iconst K (0 : Int32) at_99 (by decide) (pc' := 100) rfl ?_
        refine Jvm.OwnWp.istore K at_100 (Ls' := #[.val (.int p0), .val (.int p1), .val (.int p2), .val (.int (0 : Int32)), .val (.int (1 : Int32)), .val (.int (1 : Int32)), .val (.int (0 : Int32)), .val (.ref b56), .val (.int (0 : Int32)), .unset]) rfl (pc' := 102) rfl ?_
        refine Jvm.OwnWp.iload K at_102 rfl (pc' := 104) rfl ?_
        refine ifY K at_104 (by decide) (pc' := 112) (by decide) (by decide) ?_
        refine Jvm.OwnWp.iloadN K at_112 rfl (pc' := 113) rfl ?_
        refine Jvm.OwnWp.istore K at_113 (Ls' := #[.val (.int p0), .val (.int p1), .val (.int p2), .val (.int (0 : Int32)), .val (.int (1 : Int32)), .val (.int (1 : Int32)), .val (.int (0 : Int32)), .val (.ref b56), .val (.int (0 : Int32)), .val (.int (0 : Int32))]) rfl (pc' := 115) rfl ?_
        refine Jvm.OwnWp.aload K at_115 rfl rfl (pc' := 117) rfl ?_
        refine callVirt K (y := (⟨"com/example/sightline/sightline/checker/ByActivity", "pop", "()I"⟩ : MethodName)) (b := b56) (argsL := []) (S := []) (wd60 hw) (wd61 hw) (wd63 hw) (wd62 hw) (wd3 hw) (wd64 hw) (by decide) Q60_E (c_pop l Z a0 hw [] b56 ka ha sa 2 2 4607182418800017408 [4607182418800017408, 4607182418800017408] U60.1 U60.2 h60 n0 (Nat.le_trans Z0 P60.1) rfl wf2.1 wf2.2.1 (by decide) (by decide) wf2.2.2.2.1 (by decide) (by decide) Q60_E Q60_F_act Q60_F_heap Q60_F_slot Q60_F_count Q60_F_gain Q60_F_choices Q60_VA Q60_VH Q60_VS (Ne.symm ne_b56_ka) (Ne.symm ne_b56_ha) (Ne.symm ne_b56_sa) ne_ha_ka ne_sa_ka ne_sa_ha ge_b56 ge_ka ge_ha ge_sa) (lenOf pd6 rfl) at_117 rfl (Nat.le_of_ble_eq_true rfl) (Nat.le_of_ble_eq_true rfl) (Nat.le_of_ble_eq_true rfl) (Nat.le_of_ble_eq_true rfl) rfl (pc' := 120) rfl ?_
        rintro v61 h61 ⟨rfl, K61, Q61_E, Q61_F_act, Q61_F_heap, Q61_F_slot, Q61_F_count, Q61_F_gain, Q61_F_choices, Q61_VA, Q61_VH, Q61_VS⟩
        have X61_b56 := (Exa.keep Q60_E K61)
        have V61_ka := (Q60_VA.keep K61 (ninS (Ne.symm ne_b56_ka) (ninS (Ne.symm ne_ha_ka) (ninS (Ne.symm ne_sa_ka) (nin0)))))
        have P61 := (P60.trans K61 (allS (Or.inr lt_b56) (allS (Or.inr lt_ha) (allS (Or.inr lt_sa) (all0)))))
        show Go _ _ _ _ _ _ _ _ _ _ _ h61 4 21 (mkF m 120 #[.val (.int p0), .val (.int p1), .val (.int p2), .val (.int (0 : Int32)), .val (.int (1 : Int32)), .val (.int (1 : Int32)), .val (.int (0 : Int32)), .val (.ref b56), .val (.int (0 : Int32)), .val (.int (0 : Int32))] [(.int (Int32.ofNat (U60.1.getD 0 0)))]) _
        rw [rt2, show Int32.ofNat 0 = 0 from rfl]
        refine Jvm.OwnWp.iload K at_120 rfl (pc' := 122) rfl ?_
        refine icN K at_122 (by decide) (pc' := 125) rfl ?_
        refine Jvm.OwnWp.iconst K (1 : Int32) at_125 (by decide) (pc' := 126) rfl ?_
        refine goto' K at_126 (pc' := 130) (by decide) (by decide) ?_
        refine retB K (t := .boolean) rfl (by simp) at_130 (Nat.le_of_ble_eq_true rfl) (Nat.le_of_ble_eq_true rfl) ?_
        rfl
      · refine Jvm.OwnWp.iloadN K at_0 rfl (pc' := 1) rfl ?_
        refine Jvm.OwnWp.iconst K (1 : Int32) at_1 (by decide) (pc' := 2) rfl ?_
        refine Jvm.OwnWp.iand K at_2 (pc' := 3) rfl ?_
        rw [qa]
        refine Jvm.OwnWp.istoreN K at_3 (Ls' := #[.val (.int p0), .val (.int p1), .val (.int p2), .val (.int (0 : Int32)), .unset, .unset, .unset, .unset, .unset, .unset]) rfl (pc' := 4) rfl ?_
        refine Jvm.OwnWp.iconst K (1 : Int32) at_4 (by decide) (pc' := 5) rfl ?_
        refine Jvm.OwnWp.iloadN K at_5 rfl (pc' := 6) rfl ?_
        refine Jvm.OwnWp.isub K at_6 (pc' := 7) rfl ?_
        rw [show (1 : Int32) - 0 = 1 by decide]
        refine Jvm.OwnWp.istore K at_7 (Ls' := #[.val (.int p0), .val (.int p1), .val (.int p2), .val (.int (0 : Int32)), .val (.int (1 : Int32)), .unset, .unset, .unset, .unset, .unset]) rfl (pc' := 9) rfl ?_
        refine Jvm.OwnWp.iconst K (1 : Int32) at_9 (by decide) (pc' := 10) rfl ?_
        refine Jvm.OwnWp.iloadN K at_10 rfl (pc' := 11) rfl ?_
        refine Jvm.OwnWp.ldcI K (wd0 hw) at_11 (pc' := 13) rfl ?_
        refine Jvm.OwnWp.iand K at_13 (pc' := 14) rfl ?_
        refine Jvm.OwnWp.iconst K (3 : Int32) at_14 (by decide) (pc' := 15) rfl ?_
        refine Jvm.OwnWp.irem K at_15 (by decide) (pc' := 16) rfl ?_
        rw [qm]
        refine Jvm.OwnWp.iadd K at_16 (pc' := 17) rfl ?_
        rw [show (1 : Int32) + 0 = 1 by decide]
        refine Jvm.OwnWp.istore K at_17 (Ls' := #[.val (.int p0), .val (.int p1), .val (.int p2), .val (.int (0 : Int32)), .val (.int (1 : Int32)), .val (.int (1 : Int32)), .unset, .unset, .unset, .unset]) rfl (pc' := 19) rfl ?_
        refine Jvm.OwnWp.iloadN K at_19 rfl (pc' := 20) rfl ?_
        refine Jvm.OwnWp.ldcI K (wd0 hw) at_20 (pc' := 22) rfl ?_
        refine Jvm.OwnWp.iand K at_22 (pc' := 23) rfl ?_
        refine Jvm.OwnWp.iconst K (5 : Int32) at_23 (by decide) (pc' := 24) rfl ?_
        refine Jvm.OwnWp.irem K at_24 (by decide) (pc' := 25) rfl ?_
        rw [qk]
        refine Jvm.OwnWp.istore K at_25 (Ls' := #[.val (.int p0), .val (.int p1), .val (.int p2), .val (.int (0 : Int32)), .val (.int (1 : Int32)), .val (.int (1 : Int32)), .val (.int (1 : Int32)), .unset, .unset, .unset]) rfl (pc' := 27) rfl ?_
        refine newObj K (wd1 hw) (wd2 hw) (wd3 hw) at_27 (by decide) (by decide) (pc' := 30) rfl ?_
        intro h62 b62 g62 E62 A62 D62
        have lt_b62 : h0.size ≤ b62 := Nat.le_trans P0.1 (Nat.le_of_eq g62.symm)
        have ge_b62 : n0 ≤ b62 := Nat.le_trans Z0 lt_b62
        have P62 := (P0.ext E62)
        have F62_gain_b62 : Fld Z h62 b62 "com/example/sightline/sightline/checker/ByActivity" "gain" "D" (.double (0 : UInt64)) := D62 (Or.inl (wd11 hw)) (ty := .double) (by decide)
        have F62_choices_b62 : Fld Z h62 b62 "com/example/sightline/sightline/checker/ByActivity" "choices" "I" (.int (0 : Int32)) := D62 (Or.inr (wd13 hw)) (ty := .int) (by decide)
        have F62_activity_b62 : Fld Z h62 b62 "com/example/sightline/sightline/checker/ByActivity" "activity" "[D" .null := D62 (Or.inl (wd24 hw)) (ty := (.array .double)) (by decide)
        have F62_heap_b62 : Fld Z h62 b62 "com/example/sightline/sightline/checker/ByActivity" "heap" "[I" .null := D62 (Or.inl (wd28 hw)) (ty := (.array .int)) (by decide)
        have F62_slot_b62 : Fld Z h62 b62 "com/example/sightline/sightline/checker/ByActivity" "slot" "[I" .null := D62 (Or.inl (wd30 hw)) (ty := (.array .int)) (by decide)
        have F62_count_b62 : Fld Z h62 b62 "com/example/sightline/sightline/checker/ByActivity" "count" "I" (.int (0 : Int32)) := D62 (Or.inl (wd42 hw)) (ty := .int) (by decide)
        refine Jvm.OwnWp.dup K at_30 rfl (pc' := 31) rfl ?_
        refine Jvm.OwnWp.iconst K (2 : Int32) at_31 (by decide) (pc' := 32) rfl ?_
        refine callInit K (y := (⟨"com/example/sightline/sightline/checker/ByActivity", "<init>", "(I)V"⟩ : MethodName)) (b := b62) (argsL := [(.int (2 : Int32))]) (S := [(.ref b62)]) rfl (wd4 hw) (wd5 hw) (wd3 hw) (wd6 hw) rfl (by decide) (c_init l Z a0 hw [] b62 2 h62 n0 (Nat.le_trans Z0 P62.1) A62 ge_b62 F62_gain_b62 F62_choices_b62 F62_activity_b62 F62_heap_b62 F62_slot_b62 F62_count_b62) (lenOf pd1 rfl) at_32 rfl (Nat.le_of_ble_eq_true rfl) (Nat.le_of_ble_eq_true rfl) (Nat.le_of_ble_eq_true rfl) (Nat.le_of_ble_eq_true rfl) rfl (pc' := 35) rfl ?_
        rintro v63 h63 ⟨rfl, K63, I63_gain, I63_choices, I63_activity, I63_heap, I63_slot, I63_count⟩
        have X63_b62 := (Exa.keep A62 K63)
        have P63 := (P62.trans K63 (allS (Or.inr lt_b62) (all0)))
        show Go _ _ _ _ _ _ _ _ _ _ _ h63 1 6 (mkF m 35 #[.val (.int p0), .val (.int p1), .val (.int p2), .val (.int (0 : Int32)), .val (.int (1 : Int32)), .val (.int (1 : Int32)), .val (.int (1 : Int32)), .unset, .unset, .unset] [(.ref b62)]) _
        refine Jvm.OwnWp.astore K at_35 rfl (Ls' := #[.val (.int p0), .val (.int p1), .val (.int p2), .val (.int (0 : Int32)), .val (.int (1 : Int32)), .val (.int (1 : Int32)), .val (.int (1 : Int32)), .val (.ref b62), .unset, .unset]) rfl (pc' := 37) rfl ?_
        refine Jvm.OwnWp.aload K at_37 rfl rfl (pc' := 39) rfl ?_
        refine Jvm.OwnWp.iloadN K at_39 rfl (pc' := 40) rfl ?_
        refine Jvm.OwnWp.iload K at_40 rfl (pc' := 42) rfl ?_
        refine callStatic K (y := (⟨"com/example/sightline/sightline/checker/ByActivityDecayPinLaw", "bumps", "(Lcom/example/sightline/sightline/checker/ByActivity;II)V"⟩ : MethodName)) (argsL := [(.ref b62), (.int (0 : Int32)), (.int (1 : Int32))]) (S := []) (wd14 hw) (wd15 hw) (wd16 hw) (wd17 hw) (by decide) (c_b01 l Z a0 hw [] b62 h63 n0 (Nat.le_trans Z0 P63.1) X63_b62 I63_activity I63_heap I63_slot I63_count I63_gain I63_choices ge_b62) (lenOf pd4 rfl) at_42 rfl (Nat.le_of_ble_eq_true rfl) (Nat.le_of_ble_eq_true rfl) (Nat.le_of_ble_eq_true rfl) (Nat.le_of_ble_eq_true rfl) rfl (pc' := 45) rfl ?_
        rintro v64 h64 ⟨rfl, K64, ka, ha, sa, Hl, Sl, zk, zh, zs, ne_ha_ka, ne_sa_ka, ne_sa_ha, wf, rt, Q64_E, Q64_F_act, Q64_F_heap, Q64_F_slot, Q64_F_count, Q64_F_gain, Q64_F_choices, Q64_VA, Q64_VH, Q64_VS⟩
        have ne_b62_ka : b62 ≠ ka := Nat.ne_of_lt (Nat.lt_of_lt_of_le (Exa.lt X63_b62) zk)
        have lt_ka : h0.size ≤ ka := Nat.le_trans P63.1 zk
        have ge_ka : n0 ≤ ka := Nat.le_trans Z0 lt_ka
        have ne_b62_ha : b62 ≠ ha := Nat.ne_of_lt (Nat.lt_of_lt_of_le (Exa.lt X63_b62) zh)
        have lt_ha : h0.size ≤ ha := Nat.le_trans P63.1 zh
        have ge_ha : n0 ≤ ha := Nat.le_trans Z0 lt_ha
        have ne_b62_sa : b62 ≠ sa := Nat.ne_of_lt (Nat.lt_of_lt_of_le (Exa.lt X63_b62) zs)
        have lt_sa : h0.size ≤ sa := Nat.le_trans P63.1 zs
        have ge_sa : n0 ≤ sa := Nat.le_trans Z0 lt_sa
        have X64_b62 := (Exa.keep X63_b62 K64)
        have P64 := (P63.trans K64 (allS (Or.inr lt_b62) (all0)))
        show Go _ _ _ _ _ _ _ _ _ _ _ h64 4 21 (mkF m 45 #[.val (.int p0), .val (.int p1), .val (.int p2), .val (.int (0 : Int32)), .val (.int (1 : Int32)), .val (.int (1 : Int32)), .val (.int (1 : Int32)), .val (.ref b62), .unset, .unset] []) _
        refine Jvm.OwnWp.aload K at_45 rfl rfl (pc' := 47) rfl ?_
        refine Jvm.OwnWp.iload K at_47 rfl (pc' := 49) rfl ?_
        refine callStatic K (y := (⟨"com/example/sightline/sightline/checker/ByActivityDecayPinLaw", "decays", "(Lcom/example/sightline/sightline/checker/ByActivity;I)V"⟩ : MethodName)) (argsL := [(.ref b62), (.int (1 : Int32))]) (S := []) (wd51 hw) (wd52 hw) (wd16 hw) (wd53 hw) (by decide) (c_dec1 l Z a0 hw [] b62 ka ha sa h64 n0 (Nat.le_trans Z0 P64.1) Q64_E Q64_F_act Q64_F_heap Q64_F_slot Q64_F_count Q64_F_gain Q64_F_choices ge_b62) (lenOf pd5 rfl) at_49 rfl (Nat.le_of_ble_eq_true rfl) (Nat.le_of_ble_eq_true rfl) (Nat.le_of_ble_eq_true rfl) (Nat.le_of_ble_eq_true rfl) rfl (pc' := 52) rfl ?_
        rintro v65 h65 ⟨rfl, K65, Q65_F_act, Q65_F_heap, Q65_F_slot, Q65_F_count, Q65_F_gain, Q65_F_choices⟩
        have X65_b62 := (Exa.keep Q64_E K65)
        have V65_ka := (Q64_VA.keep K65 (ninS (Ne.symm ne_b62_ka) (nin0)))
        have V65_ha := (Q64_VH.keep K65 (ninS (Ne.symm ne_b62_ha) (nin0)))
        have V65_sa := (Q64_VS.keep K65 (ninS (Ne.symm ne_b62_sa) (nin0)))
        have P65 := (P64.trans K65 (allS (Or.inr lt_b62) (all0)))
        show Go _ _ _ _ _ _ _ _ _ _ _ h65 4 21 (mkF m 52 #[.val (.int p0), .val (.int p1), .val (.int p2), .val (.int (0 : Int32)), .val (.int (1 : Int32)), .val (.int (1 : Int32)), .val (.int (1 : Int32)), .val (.ref b62), .unset, .unset] []) _
        refine Jvm.OwnWp.aload K at_52 rfl rfl (pc' := 54) rfl ?_
        refine Jvm.OwnWp.iload K at_54 rfl (pc' := 56) rfl ?_
        refine callVirt K (y := (⟨"com/example/sightline/sightline/checker/ByActivity", "bump", "(I)V"⟩ : MethodName)) (b := b62) (argsL := [(.int (1 : Int32))]) (S := []) (wd18 hw) (wd19 hw) (wd21 hw) (wd20 hw) (wd3 hw) (wd22 hw) (by decide) X65_b62 (c_bumpN l Z a0 hw [] b62 ka ha sa 2 1 4609112532926033335 [4607182418800017408, 0] Hl Sl 1 h65 n0 (Nat.le_trans Z0 P65.1) rfl wf.1 wf.2.1 (by decide) (by decide) wf.2.2.2.1 (by decide) (by decide) (Jvm.Free.Fl.val64_no.mpr (by decide +kernel)) (by decide +kernel) (abs1 wf rt (by decide) (by decide)) X65_b62 Q65_F_act Q65_F_heap Q65_F_slot Q65_F_count Q65_F_gain Q65_F_choices V65_ka V65_ha V65_sa (Ne.symm ne_b62_ka) (Ne.symm ne_b62_ha) (Ne.symm ne_b62_sa) ne_ha_ka ne_sa_ka ne_sa_ha ge_b62 ge_ka ge_ha ge_sa) (lenOf pd1 rfl) at_56 rfl (Nat.le_of_ble_eq_true rfl) (Nat.le_of_ble_eq_true rfl) (Nat.le_of_ble_eq_true rfl) (Nat.le_of_ble_eq_true rfl) rfl (pc' := 59) rfl ?_
        rintro v66 h66 ⟨rfl, K66, Q66_E, Q66_F_act, Q66_F_heap, Q66_F_slot, Q66_F_count, Q66_F_gain, Q66_F_choices, Q66_VA, Q66_VH, Q66_VS⟩
        have X66_b62 := (Exa.keep X65_b62 K66)
        have P66 := (P65.trans K66 (allS (Or.inr lt_b62) (allS (Or.inr lt_ka) (allS (Or.inr lt_ha) (allS (Or.inr lt_sa) (all0))))))
        show Go _ _ _ _ _ _ _ _ _ _ _ h66 4 21 (mkF m 59 #[.val (.int p0), .val (.int p1), .val (.int p2), .val (.int (0 : Int32)), .val (.int (1 : Int32)), .val (.int (1 : Int32)), .val (.int (1 : Int32)), .val (.ref b62), .unset, .unset] []) _
        rw [show ([4607182418800017408, 0].set 1 (FP.dadd ([4607182418800017408, 0].getD 1 0) 4609112532926033335)) = [4607182418800017408, 4609112532926033335] from (by decide +kernel)] at Q66_VA Q66_VH Q66_VS
        have hA2 : Nums [4607182418800017408, 4609112532926033335] := nums2 (by unfold Jvm.OwnHeap.Num; decide +kernel) (by unfold Jvm.OwnHeap.Num; decide +kernel)
        have wf2 := (push_spec (by decide) hA2 wf ord1 (by decide) (by decide : 1 < 2) (abs1 wf rt (by decide) (by decide))).1
        have rt2 := push_root (A := [4607182418800017408, 4609112532926033335]) (c := 1) (S := Sl) wf.1 rt
        rw [if_pos (by decide +kernel)] at rt2
        generalize pushB [4607182418800017408, 4609112532926033335] 1 Hl Sl 1 = U66 at *
        have Q66_F_count : Fld Z h66 b62 "com/example/sightline/sightline/checker/ByActivity" "count" "I" (.int (Int32.ofNat 2)) := Q66_F_count
        refine Jvm.OwnWp.iload K at_59 rfl (pc' := 61) rfl ?_
        refine Jvm.OwnWp.iconst K (1 : Int32) at_61 (by decide) (pc' := 62) rfl ?_
        refine icN K at_62 (by decide) (pc' := 65) rfl ?_
        refine Jvm.OwnWp.iload K at_65 rfl (pc' := 67) rfl ?_
        refine Jvm.OwnWp.iconst K (1 : Int32) at_67 (by decide) (pc' := 68) rfl ?_
        refine icY K at_68 (by decide) (pc' := 95) (by decide) (by decide) ?_
        refine Jvm.OwnWp.iconst K (1 : Int32) at_95 (by decide) (pc' := 96) rfl ?_
        refine goto' K at_96 (pc' := 100) (by decide) (by decide) ?_
        refine Jvm.OwnWp.istore K at_100 (Ls' := #[.val (.int p0), .val (.int p1), .val (.int p2), .val (.int (0 : Int32)), .val (.int (1 : Int32)), .val (.int (1 : Int32)), .val (.int (1 : Int32)), .val (.ref b62), .val (.int (1 : Int32)), .unset]) rfl (pc' := 102) rfl ?_
        refine Jvm.OwnWp.iload K at_102 rfl (pc' := 104) rfl ?_
        refine ifN K at_104 (by decide) (pc' := 107) rfl ?_
        refine Jvm.OwnWp.iload K at_107 rfl (pc' := 109) rfl ?_
        refine goto' K at_109 (pc' := 113) (by decide) (by decide) ?_
        refine Jvm.OwnWp.istore K at_113 (Ls' := #[.val (.int p0), .val (.int p1), .val (.int p2), .val (.int (0 : Int32)), .val (.int (1 : Int32)), .val (.int (1 : Int32)), .val (.int (1 : Int32)), .val (.ref b62), .val (.int (1 : Int32)), .val (.int (1 : Int32))]) rfl (pc' := 115) rfl ?_
        refine Jvm.OwnWp.aload K at_115 rfl rfl (pc' := 117) rfl ?_
        refine callVirt K (y := (⟨"com/example/sightline/sightline/checker/ByActivity", "pop", "()I"⟩ : MethodName)) (b := b62) (argsL := []) (S := []) (wd60 hw) (wd61 hw) (wd63 hw) (wd62 hw) (wd3 hw) (wd64 hw) (by decide) Q66_E (c_pop l Z a0 hw [] b62 ka ha sa 2 2 4609112532926033335 [4607182418800017408, 4609112532926033335] U66.1 U66.2 h66 n0 (Nat.le_trans Z0 P66.1) rfl wf2.1 wf2.2.1 (by decide) (by decide) wf2.2.2.2.1 (by decide) (by decide) Q66_E Q66_F_act Q66_F_heap Q66_F_slot Q66_F_count Q66_F_gain Q66_F_choices Q66_VA Q66_VH Q66_VS (Ne.symm ne_b62_ka) (Ne.symm ne_b62_ha) (Ne.symm ne_b62_sa) ne_ha_ka ne_sa_ka ne_sa_ha ge_b62 ge_ka ge_ha ge_sa) (lenOf pd6 rfl) at_117 rfl (Nat.le_of_ble_eq_true rfl) (Nat.le_of_ble_eq_true rfl) (Nat.le_of_ble_eq_true rfl) (Nat.le_of_ble_eq_true rfl) rfl (pc' := 120) rfl ?_
        rintro v67 h67 ⟨rfl, K67, Q67_E, Q67_F_act, Q67_F_heap, Q67_F_slot, Q67_F_count, Q67_F_gain, Q67_F_choices, Q67_VA, Q67_VH, Q67_VS⟩
        have X67_b62 := (Exa.keep Q66_E K67)
        have V67_ka := (Q66_VA.keep K67 (ninS (Ne.symm ne_b62_ka) (ninS (Ne.symm ne_ha_ka) (ninS (Ne.symm ne_sa_ka) (nin0)))))
        have P67 := (P66.trans K67 (allS (Or.inr lt_b62) (allS (Or.inr lt_ha) (allS (Or.inr lt_sa) (all0)))))
        show Go _ _ _ _ _ _ _ _ _ _ _ h67 4 21 (mkF m 120 #[.val (.int p0), .val (.int p1), .val (.int p2), .val (.int (0 : Int32)), .val (.int (1 : Int32)), .val (.int (1 : Int32)), .val (.int (1 : Int32)), .val (.ref b62), .val (.int (1 : Int32)), .val (.int (1 : Int32))] [(.int (Int32.ofNat (U66.1.getD 0 0)))]) _
        rw [rt2, show Int32.ofNat 1 = 1 from rfl]
        refine Jvm.OwnWp.iload K at_120 rfl (pc' := 122) rfl ?_
        refine icN K at_122 (by decide) (pc' := 125) rfl ?_
        refine Jvm.OwnWp.iconst K (1 : Int32) at_125 (by decide) (pc' := 126) rfl ?_
        refine goto' K at_126 (pc' := 130) (by decide) (by decide) ?_
        refine retB K (t := .boolean) rfl (by simp) at_130 (Nat.le_of_ble_eq_true rfl) (Nat.le_of_ble_eq_true rfl) ?_
        rfl
      · refine Jvm.OwnWp.iloadN K at_0 rfl (pc' := 1) rfl ?_
        refine Jvm.OwnWp.iconst K (1 : Int32) at_1 (by decide) (pc' := 2) rfl ?_
        refine Jvm.OwnWp.iand K at_2 (pc' := 3) rfl ?_
        rw [qa]
        refine Jvm.OwnWp.istoreN K at_3 (Ls' := #[.val (.int p0), .val (.int p1), .val (.int p2), .val (.int (0 : Int32)), .unset, .unset, .unset, .unset, .unset, .unset]) rfl (pc' := 4) rfl ?_
        refine Jvm.OwnWp.iconst K (1 : Int32) at_4 (by decide) (pc' := 5) rfl ?_
        refine Jvm.OwnWp.iloadN K at_5 rfl (pc' := 6) rfl ?_
        refine Jvm.OwnWp.isub K at_6 (pc' := 7) rfl ?_
        rw [show (1 : Int32) - 0 = 1 by decide]
        refine Jvm.OwnWp.istore K at_7 (Ls' := #[.val (.int p0), .val (.int p1), .val (.int p2), .val (.int (0 : Int32)), .val (.int (1 : Int32)), .unset, .unset, .unset, .unset, .unset]) rfl (pc' := 9) rfl ?_
        refine Jvm.OwnWp.iconst K (1 : Int32) at_9 (by decide) (pc' := 10) rfl ?_
        refine Jvm.OwnWp.iloadN K at_10 rfl (pc' := 11) rfl ?_
        refine Jvm.OwnWp.ldcI K (wd0 hw) at_11 (pc' := 13) rfl ?_
        refine Jvm.OwnWp.iand K at_13 (pc' := 14) rfl ?_
        refine Jvm.OwnWp.iconst K (3 : Int32) at_14 (by decide) (pc' := 15) rfl ?_
        refine Jvm.OwnWp.irem K at_15 (by decide) (pc' := 16) rfl ?_
        rw [qm]
        refine Jvm.OwnWp.iadd K at_16 (pc' := 17) rfl ?_
        rw [show (1 : Int32) + 0 = 1 by decide]
        refine Jvm.OwnWp.istore K at_17 (Ls' := #[.val (.int p0), .val (.int p1), .val (.int p2), .val (.int (0 : Int32)), .val (.int (1 : Int32)), .val (.int (1 : Int32)), .unset, .unset, .unset, .unset]) rfl (pc' := 19) rfl ?_
        refine Jvm.OwnWp.iloadN K at_19 rfl (pc' := 20) rfl ?_
        refine Jvm.OwnWp.ldcI K (wd0 hw) at_20 (pc' := 22) rfl ?_
        refine Jvm.OwnWp.iand K at_22 (pc' := 23) rfl ?_
        refine Jvm.OwnWp.iconst K (5 : Int32) at_23 (by decide) (pc' := 24) rfl ?_
        refine Jvm.OwnWp.irem K at_24 (by decide) (pc' := 25) rfl ?_
        rw [qk]
        refine Jvm.OwnWp.istore K at_25 (Ls' := #[.val (.int p0), .val (.int p1), .val (.int p2), .val (.int (0 : Int32)), .val (.int (1 : Int32)), .val (.int (1 : Int32)), .val (.int (2 : Int32)), .unset, .unset, .unset]) rfl (pc' := 27) rfl ?_
        refine newObj K (wd1 hw) (wd2 hw) (wd3 hw) at_27 (by decide) (by decide) (pc' := 30) rfl ?_
        intro h68 b68 g68 E68 A68 D68
        have lt_b68 : h0.size ≤ b68 := Nat.le_trans P0.1 (Nat.le_of_eq g68.symm)
        have ge_b68 : n0 ≤ b68 := Nat.le_trans Z0 lt_b68
        have P68 := (P0.ext E68)
        have F68_gain_b68 : Fld Z h68 b68 "com/example/sightline/sightline/checker/ByActivity" "gain" "D" (.double (0 : UInt64)) := D68 (Or.inl (wd11 hw)) (ty := .double) (by decide)
        have F68_choices_b68 : Fld Z h68 b68 "com/example/sightline/sightline/checker/ByActivity" "choices" "I" (.int (0 : Int32)) := D68 (Or.inr (wd13 hw)) (ty := .int) (by decide)
        have F68_activity_b68 : Fld Z h68 b68 "com/example/sightline/sightline/checker/ByActivity" "activity" "[D" .null := D68 (Or.inl (wd24 hw)) (ty := (.array .double)) (by decide)
        have F68_heap_b68 : Fld Z h68 b68 "com/example/sightline/sightline/checker/ByActivity" "heap" "[I" .null := D68 (Or.inl (wd28 hw)) (ty := (.array .int)) (by decide)
        have F68_slot_b68 : Fld Z h68 b68 "com/example/sightline/sightline/checker/ByActivity" "slot" "[I" .null := D68 (Or.inl (wd30 hw)) (ty := (.array .int)) (by decide)
        have F68_count_b68 : Fld Z h68 b68 "com/example/sightline/sightline/checker/ByActivity" "count" "I" (.int (0 : Int32)) := D68 (Or.inl (wd42 hw)) (ty := .int) (by decide)
        refine Jvm.OwnWp.dup K at_30 rfl (pc' := 31) rfl ?_
        refine Jvm.OwnWp.iconst K (2 : Int32) at_31 (by decide) (pc' := 32) rfl ?_
        refine callInit K (y := (⟨"com/example/sightline/sightline/checker/ByActivity", "<init>", "(I)V"⟩ : MethodName)) (b := b68) (argsL := [(.int (2 : Int32))]) (S := [(.ref b68)]) rfl (wd4 hw) (wd5 hw) (wd3 hw) (wd6 hw) rfl (by decide) (c_init l Z a0 hw [] b68 2 h68 n0 (Nat.le_trans Z0 P68.1) A68 ge_b68 F68_gain_b68 F68_choices_b68 F68_activity_b68 F68_heap_b68 F68_slot_b68 F68_count_b68) (lenOf pd1 rfl) at_32 rfl (Nat.le_of_ble_eq_true rfl) (Nat.le_of_ble_eq_true rfl) (Nat.le_of_ble_eq_true rfl) (Nat.le_of_ble_eq_true rfl) rfl (pc' := 35) rfl ?_
        rintro v69 h69 ⟨rfl, K69, I69_gain, I69_choices, I69_activity, I69_heap, I69_slot, I69_count⟩
        have X69_b68 := (Exa.keep A68 K69)
        have P69 := (P68.trans K69 (allS (Or.inr lt_b68) (all0)))
        show Go _ _ _ _ _ _ _ _ _ _ _ h69 1 6 (mkF m 35 #[.val (.int p0), .val (.int p1), .val (.int p2), .val (.int (0 : Int32)), .val (.int (1 : Int32)), .val (.int (1 : Int32)), .val (.int (2 : Int32)), .unset, .unset, .unset] [(.ref b68)]) _
        refine Jvm.OwnWp.astore K at_35 rfl (Ls' := #[.val (.int p0), .val (.int p1), .val (.int p2), .val (.int (0 : Int32)), .val (.int (1 : Int32)), .val (.int (1 : Int32)), .val (.int (2 : Int32)), .val (.ref b68), .unset, .unset]) rfl (pc' := 37) rfl ?_
        refine Jvm.OwnWp.aload K at_37 rfl rfl (pc' := 39) rfl ?_
        refine Jvm.OwnWp.iloadN K at_39 rfl (pc' := 40) rfl ?_
        refine Jvm.OwnWp.iload K at_40 rfl (pc' := 42) rfl ?_
        refine callStatic K (y := (⟨"com/example/sightline/sightline/checker/ByActivityDecayPinLaw", "bumps", "(Lcom/example/sightline/sightline/checker/ByActivity;II)V"⟩ : MethodName)) (argsL := [(.ref b68), (.int (0 : Int32)), (.int (1 : Int32))]) (S := []) (wd14 hw) (wd15 hw) (wd16 hw) (wd17 hw) (by decide) (c_b01 l Z a0 hw [] b68 h69 n0 (Nat.le_trans Z0 P69.1) X69_b68 I69_activity I69_heap I69_slot I69_count I69_gain I69_choices ge_b68) (lenOf pd4 rfl) at_42 rfl (Nat.le_of_ble_eq_true rfl) (Nat.le_of_ble_eq_true rfl) (Nat.le_of_ble_eq_true rfl) (Nat.le_of_ble_eq_true rfl) rfl (pc' := 45) rfl ?_
        rintro v70 h70 ⟨rfl, K70, ka, ha, sa, Hl, Sl, zk, zh, zs, ne_ha_ka, ne_sa_ka, ne_sa_ha, wf, rt, Q70_E, Q70_F_act, Q70_F_heap, Q70_F_slot, Q70_F_count, Q70_F_gain, Q70_F_choices, Q70_VA, Q70_VH, Q70_VS⟩
        have ne_b68_ka : b68 ≠ ka := Nat.ne_of_lt (Nat.lt_of_lt_of_le (Exa.lt X69_b68) zk)
        have lt_ka : h0.size ≤ ka := Nat.le_trans P69.1 zk
        have ge_ka : n0 ≤ ka := Nat.le_trans Z0 lt_ka
        have ne_b68_ha : b68 ≠ ha := Nat.ne_of_lt (Nat.lt_of_lt_of_le (Exa.lt X69_b68) zh)
        have lt_ha : h0.size ≤ ha := Nat.le_trans P69.1 zh
        have ge_ha : n0 ≤ ha := Nat.le_trans Z0 lt_ha
        have ne_b68_sa : b68 ≠ sa := Nat.ne_of_lt (Nat.lt_of_lt_of_le (Exa.lt X69_b68) zs)
        have lt_sa : h0.size ≤ sa := Nat.le_trans P69.1 zs
        have ge_sa : n0 ≤ sa := Nat.le_trans Z0 lt_sa
        have X70_b68 := (Exa.keep X69_b68 K70)
        have P70 := (P69.trans K70 (allS (Or.inr lt_b68) (all0)))
        show Go _ _ _ _ _ _ _ _ _ _ _ h70 4 21 (mkF m 45 #[.val (.int p0), .val (.int p1), .val (.int p2), .val (.int (0 : Int32)), .val (.int (1 : Int32)), .val (.int (1 : Int32)), .val (.int (2 : Int32)), .val (.ref b68), .unset, .unset] []) _
        refine Jvm.OwnWp.aload K at_45 rfl rfl (pc' := 47) rfl ?_
        refine Jvm.OwnWp.iload K at_47 rfl (pc' := 49) rfl ?_
        refine callStatic K (y := (⟨"com/example/sightline/sightline/checker/ByActivityDecayPinLaw", "decays", "(Lcom/example/sightline/sightline/checker/ByActivity;I)V"⟩ : MethodName)) (argsL := [(.ref b68), (.int (2 : Int32))]) (S := []) (wd51 hw) (wd52 hw) (wd16 hw) (wd53 hw) (by decide) (c_dec2 l Z a0 hw [] b68 ka ha sa h70 n0 (Nat.le_trans Z0 P70.1) Q70_E Q70_F_act Q70_F_heap Q70_F_slot Q70_F_count Q70_F_gain Q70_F_choices ge_b68) (lenOf pd5 rfl) at_49 rfl (Nat.le_of_ble_eq_true rfl) (Nat.le_of_ble_eq_true rfl) (Nat.le_of_ble_eq_true rfl) (Nat.le_of_ble_eq_true rfl) rfl (pc' := 52) rfl ?_
        rintro v71 h71 ⟨rfl, K71, Q71_F_act, Q71_F_heap, Q71_F_slot, Q71_F_count, Q71_F_gain, Q71_F_choices⟩
        have X71_b68 := (Exa.keep Q70_E K71)
        have V71_ka := (Q70_VA.keep K71 (ninS (Ne.symm ne_b68_ka) (nin0)))
        have V71_ha := (Q70_VH.keep K71 (ninS (Ne.symm ne_b68_ha) (nin0)))
        have V71_sa := (Q70_VS.keep K71 (ninS (Ne.symm ne_b68_sa) (nin0)))
        have P71 := (P70.trans K71 (allS (Or.inr lt_b68) (all0)))
        show Go _ _ _ _ _ _ _ _ _ _ _ h71 4 21 (mkF m 52 #[.val (.int p0), .val (.int p1), .val (.int p2), .val (.int (0 : Int32)), .val (.int (1 : Int32)), .val (.int (1 : Int32)), .val (.int (2 : Int32)), .val (.ref b68), .unset, .unset] []) _
        refine Jvm.OwnWp.aload K at_52 rfl rfl (pc' := 54) rfl ?_
        refine Jvm.OwnWp.iload K at_54 rfl (pc' := 56) rfl ?_
        refine callVirt K (y := (⟨"com/example/sightline/sightline/checker/ByActivity", "bump", "(I)V"⟩ : MethodName)) (b := b68) (argsL := [(.int (1 : Int32))]) (S := []) (wd18 hw) (wd19 hw) (wd21 hw) (wd20 hw) (wd3 hw) (wd22 hw) (by decide) X71_b68 (c_bumpN l Z a0 hw [] b68 ka ha sa 2 1 4611777928623864853 [4607182418800017408, 0] Hl Sl 1 h71 n0 (Nat.le_trans Z0 P71.1) rfl wf.1 wf.2.1 (by decide) (by decide) wf.2.2.2.1 (by decide) (by decide) (Jvm.Free.Fl.val64_no.mpr (by decide +kernel)) (by decide +kernel) (abs1 wf rt (by decide) (by decide)) X71_b68 Q71_F_act Q71_F_heap Q71_F_slot Q71_F_count Q71_F_gain Q71_F_choices V71_ka V71_ha V71_sa (Ne.symm ne_b68_ka) (Ne.symm ne_b68_ha) (Ne.symm ne_b68_sa) ne_ha_ka ne_sa_ka ne_sa_ha ge_b68 ge_ka ge_ha ge_sa) (lenOf pd1 rfl) at_56 rfl (Nat.le_of_ble_eq_true rfl) (Nat.le_of_ble_eq_true rfl) (Nat.le_of_ble_eq_true rfl) (Nat.le_of_ble_eq_true rfl) rfl (pc' := 59) rfl ?_
        rintro v72 h72 ⟨rfl, K72, Q72_E, Q72_F_act, Q72_F_heap, Q72_F_slot, Q72_F_count, Q72_F_gain, Q72_F_choices, Q72_VA, Q72_VH, Q72_VS⟩
        have X72_b68 := (Exa.keep X71_b68 K72)
        have P72 := (P71.trans K72 (allS (Or.inr lt_b68) (allS (Or.inr lt_ka) (allS (Or.inr lt_ha) (allS (Or.inr lt_sa) (all0))))))
        show Go _ _ _ _ _ _ _ _ _ _ _ h72 4 21 (mkF m 59 #[.val (.int p0), .val (.int p1), .val (.int p2), .val (.int (0 : Int32)), .val (.int (1 : Int32)), .val (.int (1 : Int32)), .val (.int (2 : Int32)), .val (.ref b68), .unset, .unset] []) _
        rw [show ([4607182418800017408, 0].set 1 (FP.dadd ([4607182418800017408, 0].getD 1 0) 4611777928623864853)) = [4607182418800017408, 4611777928623864853] from (by decide +kernel)] at Q72_VA Q72_VH Q72_VS
        have hA2 : Nums [4607182418800017408, 4611777928623864853] := nums2 (by unfold Jvm.OwnHeap.Num; decide +kernel) (by unfold Jvm.OwnHeap.Num; decide +kernel)
        have wf2 := (push_spec (by decide) hA2 wf ord1 (by decide) (by decide : 1 < 2) (abs1 wf rt (by decide) (by decide))).1
        have rt2 := push_root (A := [4607182418800017408, 4611777928623864853]) (c := 1) (S := Sl) wf.1 rt
        rw [if_pos (by decide +kernel)] at rt2
        generalize pushB [4607182418800017408, 4611777928623864853] 1 Hl Sl 1 = U72 at *
        have Q72_F_count : Fld Z h72 b68 "com/example/sightline/sightline/checker/ByActivity" "count" "I" (.int (Int32.ofNat 2)) := Q72_F_count
        refine Jvm.OwnWp.iload K at_59 rfl (pc' := 61) rfl ?_
        refine Jvm.OwnWp.iconst K (1 : Int32) at_61 (by decide) (pc' := 62) rfl ?_
        refine icN K at_62 (by decide) (pc' := 65) rfl ?_
        refine Jvm.OwnWp.iload K at_65 rfl (pc' := 67) rfl ?_
        refine Jvm.OwnWp.iconst K (1 : Int32) at_67 (by decide) (pc' := 68) rfl ?_
        refine icY K at_68 (by decide) (pc' := 95) (by decide) (by decide) ?_
        refine Jvm.OwnWp.iconst K (1 : Int32) at_95 (by decide) (pc' := 96) rfl ?_
        refine goto' K at_96 (pc' := 100) (by decide) (by decide) ?_
        refine Jvm.OwnWp.istore K at_100 (Ls' := #[.val (.int p0), .val (.int p1), .val (.int p2), .val (.int (0 : Int32)), .val (.int (1 : Int32)), .val (.int (1 : Int32)), .val (.int (2 : Int32)), .val (.ref b68), .val (.int (1 : Int32)), .unset]) rfl (pc' := 102) rfl ?_
        refine Jvm.OwnWp.iload K at_102 rfl (pc' := 104) rfl ?_
        refine ifN K at_104 (by decide) (pc' := 107) rfl ?_
        refine Jvm.OwnWp.iload K at_107 rfl (pc' := 109) rfl ?_
        refine goto' K at_109 (pc' := 113) (by decide) (by decide) ?_
        refine Jvm.OwnWp.istore K at_113 (Ls' := #[.val (.int p0), .val (.int p1), .val (.int p2), .val (.int (0 : Int32)), .val (.int (1 : Int32)), .val (.int (1 : Int32)), .val (.int (2 : Int32)), .val (.ref b68), .val (.int (1 : Int32)), .val (.int (1 : Int32))]) rfl (pc' := 115) rfl ?_
        refine Jvm.OwnWp.aload K at_115 rfl rfl (pc' := 117) rfl ?_
        refine callVirt K (y := (⟨"com/example/sightline/sightline/checker/ByActivity", "pop", "()I"⟩ : MethodName)) (b := b68) (argsL := []) (S := []) (wd60 hw) (wd61 hw) (wd63 hw) (wd62 hw) (wd3 hw) (wd64 hw) (by decide) Q72_E (c_pop l Z a0 hw [] b68 ka ha sa 2 2 4611777928623864853 [4607182418800017408, 4611777928623864853] U72.1 U72.2 h72 n0 (Nat.le_trans Z0 P72.1) rfl wf2.1 wf2.2.1 (by decide) (by decide) wf2.2.2.2.1 (by decide) (by decide) Q72_E Q72_F_act Q72_F_heap Q72_F_slot Q72_F_count Q72_F_gain Q72_F_choices Q72_VA Q72_VH Q72_VS (Ne.symm ne_b68_ka) (Ne.symm ne_b68_ha) (Ne.symm ne_b68_sa) ne_ha_ka ne_sa_ka ne_sa_ha ge_b68 ge_ka ge_ha ge_sa) (lenOf pd6 rfl) at_117 rfl (Nat.le_of_ble_eq_true rfl) (Nat.le_of_ble_eq_true rfl) (Nat.le_of_ble_eq_true rfl) (Nat.le_of_ble_eq_true rfl) rfl (pc' := 120) rfl ?_
        rintro v73 h73 ⟨rfl, K73, Q73_E, Q73_F_act, Q73_F_heap, Q73_F_slot, Q73_F_count, Q73_F_gain, Q73_F_choices, Q73_VA, Q73_VH, Q73_VS⟩
        have X73_b68 := (Exa.keep Q72_E K73)
        have V73_ka := (Q72_VA.keep K73 (ninS (Ne.symm ne_b68_ka) (ninS (Ne.symm ne_ha_ka) (ninS (Ne.symm ne_sa_ka) (nin0)))))
        have P73 := (P72.trans K73 (allS (Or.inr lt_b68) (allS (Or.inr lt_ha) (allS (Or.inr lt_sa) (all0)))))
        show Go _ _ _ _ _ _ _ _ _ _ _ h73 4 21 (mkF m 120 #[.val (.int p0), .val (.int p1), .val (.int p2), .val (.int (0 : Int32)), .val (.int (1 : Int32)), .val (.int (1 : Int32)), .val (.int (2 : Int32)), .val (.ref b68), .val (.int (1 : Int32)), .val (.int (1 : Int32))] [(.int (Int32.ofNat (U72.1.getD 0 0)))]) _
        rw [rt2, show Int32.ofNat 1 = 1 from rfl]
        refine Jvm.OwnWp.iload K at_120 rfl (pc' := 122) rfl ?_
        refine icN K at_122 (by decide) (pc' := 125) rfl ?_
        refine Jvm.OwnWp.iconst K (1 : Int32) at_125 (by decide) (pc' := 126) rfl ?_
        refine goto' K at_126 (pc' := 130) (by decide) (by decide) ?_
        refine retB K (t := .boolean) rfl (by simp) at_130 (Nat.le_of_ble_eq_true rfl) (Nat.le_of_ble_eq_true rfl) ?_
        rfl
      · refine Jvm.OwnWp.iloadN K at_0 rfl (pc' := 1) rfl ?_
        refine Jvm.OwnWp.iconst K (1 : Int32) at_1 (by decide) (pc' := 2) rfl ?_
        refine Jvm.OwnWp.iand K at_2 (pc' := 3) rfl ?_
        rw [qa]
        refine Jvm.OwnWp.istoreN K at_3 (Ls' := #[.val (.int p0), .val (.int p1), .val (.int p2), .val (.int (0 : Int32)), .unset, .unset, .unset, .unset, .unset, .unset]) rfl (pc' := 4) rfl ?_
        refine Jvm.OwnWp.iconst K (1 : Int32) at_4 (by decide) (pc' := 5) rfl ?_
        refine Jvm.OwnWp.iloadN K at_5 rfl (pc' := 6) rfl ?_
        refine Jvm.OwnWp.isub K at_6 (pc' := 7) rfl ?_
        rw [show (1 : Int32) - 0 = 1 by decide]
        refine Jvm.OwnWp.istore K at_7 (Ls' := #[.val (.int p0), .val (.int p1), .val (.int p2), .val (.int (0 : Int32)), .val (.int (1 : Int32)), .unset, .unset, .unset, .unset, .unset]) rfl (pc' := 9) rfl ?_
        refine Jvm.OwnWp.iconst K (1 : Int32) at_9 (by decide) (pc' := 10) rfl ?_
        refine Jvm.OwnWp.iloadN K at_10 rfl (pc' := 11) rfl ?_
        refine Jvm.OwnWp.ldcI K (wd0 hw) at_11 (pc' := 13) rfl ?_
        refine Jvm.OwnWp.iand K at_13 (pc' := 14) rfl ?_
        refine Jvm.OwnWp.iconst K (3 : Int32) at_14 (by decide) (pc' := 15) rfl ?_
        refine Jvm.OwnWp.irem K at_15 (by decide) (pc' := 16) rfl ?_
        rw [qm]
        refine Jvm.OwnWp.iadd K at_16 (pc' := 17) rfl ?_
        rw [show (1 : Int32) + 0 = 1 by decide]
        refine Jvm.OwnWp.istore K at_17 (Ls' := #[.val (.int p0), .val (.int p1), .val (.int p2), .val (.int (0 : Int32)), .val (.int (1 : Int32)), .val (.int (1 : Int32)), .unset, .unset, .unset, .unset]) rfl (pc' := 19) rfl ?_
        refine Jvm.OwnWp.iloadN K at_19 rfl (pc' := 20) rfl ?_
        refine Jvm.OwnWp.ldcI K (wd0 hw) at_20 (pc' := 22) rfl ?_
        refine Jvm.OwnWp.iand K at_22 (pc' := 23) rfl ?_
        refine Jvm.OwnWp.iconst K (5 : Int32) at_23 (by decide) (pc' := 24) rfl ?_
        refine Jvm.OwnWp.irem K at_24 (by decide) (pc' := 25) rfl ?_
        rw [qk]
        refine Jvm.OwnWp.istore K at_25 (Ls' := #[.val (.int p0), .val (.int p1), .val (.int p2), .val (.int (0 : Int32)), .val (.int (1 : Int32)), .val (.int (1 : Int32)), .val (.int (3 : Int32)), .unset, .unset, .unset]) rfl (pc' := 27) rfl ?_
        refine newObj K (wd1 hw) (wd2 hw) (wd3 hw) at_27 (by decide) (by decide) (pc' := 30) rfl ?_
        intro h74 b74 g74 E74 A74 D74
        have lt_b74 : h0.size ≤ b74 := Nat.le_trans P0.1 (Nat.le_of_eq g74.symm)
        have ge_b74 : n0 ≤ b74 := Nat.le_trans Z0 lt_b74
        have P74 := (P0.ext E74)
        have F74_gain_b74 : Fld Z h74 b74 "com/example/sightline/sightline/checker/ByActivity" "gain" "D" (.double (0 : UInt64)) := D74 (Or.inl (wd11 hw)) (ty := .double) (by decide)
        have F74_choices_b74 : Fld Z h74 b74 "com/example/sightline/sightline/checker/ByActivity" "choices" "I" (.int (0 : Int32)) := D74 (Or.inr (wd13 hw)) (ty := .int) (by decide)
        have F74_activity_b74 : Fld Z h74 b74 "com/example/sightline/sightline/checker/ByActivity" "activity" "[D" .null := D74 (Or.inl (wd24 hw)) (ty := (.array .double)) (by decide)
        have F74_heap_b74 : Fld Z h74 b74 "com/example/sightline/sightline/checker/ByActivity" "heap" "[I" .null := D74 (Or.inl (wd28 hw)) (ty := (.array .int)) (by decide)
        have F74_slot_b74 : Fld Z h74 b74 "com/example/sightline/sightline/checker/ByActivity" "slot" "[I" .null := D74 (Or.inl (wd30 hw)) (ty := (.array .int)) (by decide)
        have F74_count_b74 : Fld Z h74 b74 "com/example/sightline/sightline/checker/ByActivity" "count" "I" (.int (0 : Int32)) := D74 (Or.inl (wd42 hw)) (ty := .int) (by decide)
        refine Jvm.OwnWp.dup K at_30 rfl (pc' := 31) rfl ?_
        refine Jvm.OwnWp.iconst K (2 : Int32) at_31 (by decide) (pc' := 32) rfl ?_
        refine callInit K (y := (⟨"com/example/sightline/sightline/checker/ByActivity", "<init>", "(I)V"⟩ : MethodName)) (b := b74) (argsL := [(.int (2 : Int32))]) (S := [(.ref b74)]) rfl (wd4 hw) (wd5 hw) (wd3 hw) (wd6 hw) rfl (by decide) (c_init l Z a0 hw [] b74 2 h74 n0 (Nat.le_trans Z0 P74.1) A74 ge_b74 F74_gain_b74 F74_choices_b74 F74_activity_b74 F74_heap_b74 F74_slot_b74 F74_count_b74) (lenOf pd1 rfl) at_32 rfl (Nat.le_of_ble_eq_true rfl) (Nat.le_of_ble_eq_true rfl) (Nat.le_of_ble_eq_true rfl) (Nat.le_of_ble_eq_true rfl) rfl (pc' := 35) rfl ?_
        rintro v75 h75 ⟨rfl, K75, I75_gain, I75_choices, I75_activity, I75_heap, I75_slot, I75_count⟩
        have X75_b74 := (Exa.keep A74 K75)
        have P75 := (P74.trans K75 (allS (Or.inr lt_b74) (all0)))
        show Go _ _ _ _ _ _ _ _ _ _ _ h75 1 6 (mkF m 35 #[.val (.int p0), .val (.int p1), .val (.int p2), .val (.int (0 : Int32)), .val (.int (1 : Int32)), .val (.int (1 : Int32)), .val (.int (3 : Int32)), .unset, .unset, .unset] [(.ref b74)]) _
        refine Jvm.OwnWp.astore K at_35 rfl (Ls' := #[.val (.int p0), .val (.int p1), .val (.int p2), .val (.int (0 : Int32)), .val (.int (1 : Int32)), .val (.int (1 : Int32)), .val (.int (3 : Int32)), .val (.ref b74), .unset, .unset]) rfl (pc' := 37) rfl ?_
        refine Jvm.OwnWp.aload K at_37 rfl rfl (pc' := 39) rfl ?_
        refine Jvm.OwnWp.iloadN K at_39 rfl (pc' := 40) rfl ?_
        refine Jvm.OwnWp.iload K at_40 rfl (pc' := 42) rfl ?_
        refine callStatic K (y := (⟨"com/example/sightline/sightline/checker/ByActivityDecayPinLaw", "bumps", "(Lcom/example/sightline/sightline/checker/ByActivity;II)V"⟩ : MethodName)) (argsL := [(.ref b74), (.int (0 : Int32)), (.int (1 : Int32))]) (S := []) (wd14 hw) (wd15 hw) (wd16 hw) (wd17 hw) (by decide) (c_b01 l Z a0 hw [] b74 h75 n0 (Nat.le_trans Z0 P75.1) X75_b74 I75_activity I75_heap I75_slot I75_count I75_gain I75_choices ge_b74) (lenOf pd4 rfl) at_42 rfl (Nat.le_of_ble_eq_true rfl) (Nat.le_of_ble_eq_true rfl) (Nat.le_of_ble_eq_true rfl) (Nat.le_of_ble_eq_true rfl) rfl (pc' := 45) rfl ?_
        rintro v76 h76 ⟨rfl, K76, ka, ha, sa, Hl, Sl, zk, zh, zs, ne_ha_ka, ne_sa_ka, ne_sa_ha, wf, rt, Q76_E, Q76_F_act, Q76_F_heap, Q76_F_slot, Q76_F_count, Q76_F_gain, Q76_F_choices, Q76_VA, Q76_VH, Q76_VS⟩
        have ne_b74_ka : b74 ≠ ka := Nat.ne_of_lt (Nat.lt_of_lt_of_le (Exa.lt X75_b74) zk)
        have lt_ka : h0.size ≤ ka := Nat.le_trans P75.1 zk
        have ge_ka : n0 ≤ ka := Nat.le_trans Z0 lt_ka
        have ne_b74_ha : b74 ≠ ha := Nat.ne_of_lt (Nat.lt_of_lt_of_le (Exa.lt X75_b74) zh)
        have lt_ha : h0.size ≤ ha := Nat.le_trans P75.1 zh
        have ge_ha : n0 ≤ ha := Nat.le_trans Z0 lt_ha
        have ne_b74_sa : b74 ≠ sa := Nat.ne_of_lt (Nat.lt_of_lt_of_le (Exa.lt X75_b74) zs)
        have lt_sa : h0.size ≤ sa := Nat.le_trans P75.1 zs
        have ge_sa : n0 ≤ sa := Nat.le_trans Z0 lt_sa
        have X76_b74 := (Exa.keep X75_b74 K76)
        have P76 := (P75.trans K76 (allS (Or.inr lt_b74) (all0)))
        show Go _ _ _ _ _ _ _ _ _ _ _ h76 4 21 (mkF m 45 #[.val (.int p0), .val (.int p1), .val (.int p2), .val (.int (0 : Int32)), .val (.int (1 : Int32)), .val (.int (1 : Int32)), .val (.int (3 : Int32)), .val (.ref b74), .unset, .unset] []) _
        refine Jvm.OwnWp.aload K at_45 rfl rfl (pc' := 47) rfl ?_
        refine Jvm.OwnWp.iload K at_47 rfl (pc' := 49) rfl ?_
        refine callStatic K (y := (⟨"com/example/sightline/sightline/checker/ByActivityDecayPinLaw", "decays", "(Lcom/example/sightline/sightline/checker/ByActivity;I)V"⟩ : MethodName)) (argsL := [(.ref b74), (.int (3 : Int32))]) (S := []) (wd51 hw) (wd52 hw) (wd16 hw) (wd53 hw) (by decide) (c_dec3 l Z a0 hw [] b74 ka ha sa h76 n0 (Nat.le_trans Z0 P76.1) Q76_E Q76_F_act Q76_F_heap Q76_F_slot Q76_F_count Q76_F_gain Q76_F_choices ge_b74) (lenOf pd5 rfl) at_49 rfl (Nat.le_of_ble_eq_true rfl) (Nat.le_of_ble_eq_true rfl) (Nat.le_of_ble_eq_true rfl) (Nat.le_of_ble_eq_true rfl) rfl (pc' := 52) rfl ?_
        rintro v77 h77 ⟨rfl, K77, Q77_F_act, Q77_F_heap, Q77_F_slot, Q77_F_count, Q77_F_gain, Q77_F_choices⟩
        have X77_b74 := (Exa.keep Q76_E K77)
        have V77_ka := (Q76_VA.keep K77 (ninS (Ne.symm ne_b74_ka) (nin0)))
        have V77_ha := (Q76_VH.keep K77 (ninS (Ne.symm ne_b74_ha) (nin0)))
        have V77_sa := (Q76_VS.keep K77 (ninS (Ne.symm ne_b74_sa) (nin0)))
        have P77 := (P76.trans K77 (allS (Or.inr lt_b74) (all0)))
        show Go _ _ _ _ _ _ _ _ _ _ _ h77 4 21 (mkF m 52 #[.val (.int p0), .val (.int p1), .val (.int p2), .val (.int (0 : Int32)), .val (.int (1 : Int32)), .val (.int (1 : Int32)), .val (.int (3 : Int32)), .val (.ref b74), .unset, .unset] []) _
        refine Jvm.OwnWp.aload K at_52 rfl rfl (pc' := 54) rfl ?_
        refine Jvm.OwnWp.iload K at_54 rfl (pc' := 56) rfl ?_
        refine callVirt K (y := (⟨"com/example/sightline/sightline/checker/ByActivity", "bump", "(I)V"⟩ : MethodName)) (b := b74) (argsL := [(.int (1 : Int32))]) (S := []) (wd18 hw) (wd19 hw) (wd21 hw) (wd20 hw) (wd3 hw) (wd22 hw) (by decide) X77_b74 (c_bumpN l Z a0 hw [] b74 ka ha sa 2 1 4613747432834085187 [4607182418800017408, 0] Hl Sl 1 h77 n0 (Nat.le_trans Z0 P77.1) rfl wf.1 wf.2.1 (by decide) (by decide) wf.2.2.2.1 (by decide) (by decide) (Jvm.Free.Fl.val64_no.mpr (by decide +kernel)) (by decide +kernel) (abs1 wf rt (by decide) (by decide)) X77_b74 Q77_F_act Q77_F_heap Q77_F_slot Q77_F_count Q77_F_gain Q77_F_choices V77_ka V77_ha V77_sa (Ne.symm ne_b74_ka) (Ne.symm ne_b74_ha) (Ne.symm ne_b74_sa) ne_ha_ka ne_sa_ka ne_sa_ha ge_b74 ge_ka ge_ha ge_sa) (lenOf pd1 rfl) at_56 rfl (Nat.le_of_ble_eq_true rfl) (Nat.le_of_ble_eq_true rfl) (Nat.le_of_ble_eq_true rfl) (Nat.le_of_ble_eq_true rfl) rfl (pc' := 59) rfl ?_
        rintro v78 h78 ⟨rfl, K78, Q78_E, Q78_F_act, Q78_F_heap, Q78_F_slot, Q78_F_count, Q78_F_gain, Q78_F_choices, Q78_VA, Q78_VH, Q78_VS⟩
        have X78_b74 := (Exa.keep X77_b74 K78)
        have P78 := (P77.trans K78 (allS (Or.inr lt_b74) (allS (Or.inr lt_ka) (allS (Or.inr lt_ha) (allS (Or.inr lt_sa) (all0))))))
        show Go _ _ _ _ _ _ _ _ _ _ _ h78 4 21 (mkF m 59 #[.val (.int p0), .val (.int p1), .val (.int p2), .val (.int (0 : Int32)), .val (.int (1 : Int32)), .val (.int (1 : Int32)), .val (.int (3 : Int32)), .val (.ref b74), .unset, .unset] []) _
        rw [show ([4607182418800017408, 0].set 1 (FP.dadd ([4607182418800017408, 0].getD 1 0) 4613747432834085187)) = [4607182418800017408, 4613747432834085187] from (by decide +kernel)] at Q78_VA Q78_VH Q78_VS
        have hA2 : Nums [4607182418800017408, 4613747432834085187] := nums2 (by unfold Jvm.OwnHeap.Num; decide +kernel) (by unfold Jvm.OwnHeap.Num; decide +kernel)
        have wf2 := (push_spec (by decide) hA2 wf ord1 (by decide) (by decide : 1 < 2) (abs1 wf rt (by decide) (by decide))).1
        have rt2 := push_root (A := [4607182418800017408, 4613747432834085187]) (c := 1) (S := Sl) wf.1 rt
        rw [if_pos (by decide +kernel)] at rt2
        generalize pushB [4607182418800017408, 4613747432834085187] 1 Hl Sl 1 = U78 at *
        have Q78_F_count : Fld Z h78 b74 "com/example/sightline/sightline/checker/ByActivity" "count" "I" (.int (Int32.ofNat 2)) := Q78_F_count
        refine Jvm.OwnWp.iload K at_59 rfl (pc' := 61) rfl ?_
        refine Jvm.OwnWp.iconst K (1 : Int32) at_61 (by decide) (pc' := 62) rfl ?_
        refine icN K at_62 (by decide) (pc' := 65) rfl ?_
        refine Jvm.OwnWp.iload K at_65 rfl (pc' := 67) rfl ?_
        refine Jvm.OwnWp.iconst K (1 : Int32) at_67 (by decide) (pc' := 68) rfl ?_
        refine icY K at_68 (by decide) (pc' := 95) (by decide) (by decide) ?_
        refine Jvm.OwnWp.iconst K (1 : Int32) at_95 (by decide) (pc' := 96) rfl ?_
        refine goto' K at_96 (pc' := 100) (by decide) (by decide) ?_
        refine Jvm.OwnWp.istore K at_100 (Ls' := #[.val (.int p0), .val (.int p1), .val (.int p2), .val (.int (0 : Int32)), .val (.int (1 : Int32)), .val (.int (1 : Int32)), .val (.int (3 : Int32)), .val (.ref b74), .val (.int (1 : Int32)), .unset]) rfl (pc' := 102) rfl ?_
        refine Jvm.OwnWp.iload K at_102 rfl (pc' := 104) rfl ?_
        refine ifN K at_104 (by decide) (pc' := 107) rfl ?_
        refine Jvm.OwnWp.iload K at_107 rfl (pc' := 109) rfl ?_
        refine goto' K at_109 (pc' := 113) (by decide) (by decide) ?_
        refine Jvm.OwnWp.istore K at_113 (Ls' := #[.val (.int p0), .val (.int p1), .val (.int p2), .val (.int (0 : Int32)), .val (.int (1 : Int32)), .val (.int (1 : Int32)), .val (.int (3 : Int32)), .val (.ref b74), .val (.int (1 : Int32)), .val (.int (1 : Int32))]) rfl (pc' := 115) rfl ?_
        refine Jvm.OwnWp.aload K at_115 rfl rfl (pc' := 117) rfl ?_
        refine callVirt K (y := (⟨"com/example/sightline/sightline/checker/ByActivity", "pop", "()I"⟩ : MethodName)) (b := b74) (argsL := []) (S := []) (wd60 hw) (wd61 hw) (wd63 hw) (wd62 hw) (wd3 hw) (wd64 hw) (by decide) Q78_E (c_pop l Z a0 hw [] b74 ka ha sa 2 2 4613747432834085187 [4607182418800017408, 4613747432834085187] U78.1 U78.2 h78 n0 (Nat.le_trans Z0 P78.1) rfl wf2.1 wf2.2.1 (by decide) (by decide) wf2.2.2.2.1 (by decide) (by decide) Q78_E Q78_F_act Q78_F_heap Q78_F_slot Q78_F_count Q78_F_gain Q78_F_choices Q78_VA Q78_VH Q78_VS (Ne.symm ne_b74_ka) (Ne.symm ne_b74_ha) (Ne.symm ne_b74_sa) ne_ha_ka ne_sa_ka ne_sa_ha ge_b74 ge_ka ge_ha ge_sa) (lenOf pd6 rfl) at_117 rfl (Nat.le_of_ble_eq_true rfl) (Nat.le_of_ble_eq_true rfl) (Nat.le_of_ble_eq_true rfl) (Nat.le_of_ble_eq_true rfl) rfl (pc' := 120) rfl ?_
        rintro v79 h79 ⟨rfl, K79, Q79_E, Q79_F_act, Q79_F_heap, Q79_F_slot, Q79_F_count, Q79_F_gain, Q79_F_choices, Q79_VA, Q79_VH, Q79_VS⟩
        have X79_b74 := (Exa.keep Q78_E K79)
        have V79_ka := (Q78_VA.keep K79 (ninS (Ne.symm ne_b74_ka) (ninS (Ne.symm ne_ha_ka) (ninS (Ne.symm ne_sa_ka) (nin0)))))
        have P79 := (P78.trans K79 (allS (Or.inr lt_b74) (allS (Or.inr lt_ha) (allS (Or.inr lt_sa) (all0)))))
        show Go _ _ _ _ _ _ _ _ _ _ _ h79 4 21 (mkF m 120 #[.val (.int p0), .val (.int p1), .val (.int p2), .val (.int (0 : Int32)), .val (.int (1 : Int32)), .val (.int (1 : Int32)), .val (.int (3 : Int32)), .val (.ref b74), .val (.int (1 : Int32)), .val (.int (1 : Int32))] [(.int (Int32.ofNat (U78.1.getD 0 0)))]) _
        rw [rt2, show Int32.ofNat 1 = 1 from rfl]
        refine Jvm.OwnWp.iload K at_120 rfl (pc' := 122) rfl ?_
        refine icN K at_122 (by decide) (pc' := 125) rfl ?_
        refine Jvm.OwnWp.iconst K (1 : Int32) at_125 (by decide) (pc' := 126) rfl ?_
        refine goto' K at_126 (pc' := 130) (by decide) (by decide) ?_
        refine retB K (t := .boolean) rfl (by simp) at_130 (Nat.le_of_ble_eq_true rfl) (Nat.le_of_ble_eq_true rfl) ?_
        rfl
      · refine Jvm.OwnWp.iloadN K at_0 rfl (pc' := 1) rfl ?_
        refine Jvm.OwnWp.iconst K (1 : Int32) at_1 (by decide) (pc' := 2) rfl ?_
        refine Jvm.OwnWp.iand K at_2 (pc' := 3) rfl ?_
        rw [qa]
        refine Jvm.OwnWp.istoreN K at_3 (Ls' := #[.val (.int p0), .val (.int p1), .val (.int p2), .val (.int (0 : Int32)), .unset, .unset, .unset, .unset, .unset, .unset]) rfl (pc' := 4) rfl ?_
        refine Jvm.OwnWp.iconst K (1 : Int32) at_4 (by decide) (pc' := 5) rfl ?_
        refine Jvm.OwnWp.iloadN K at_5 rfl (pc' := 6) rfl ?_
        refine Jvm.OwnWp.isub K at_6 (pc' := 7) rfl ?_
        rw [show (1 : Int32) - 0 = 1 by decide]
        refine Jvm.OwnWp.istore K at_7 (Ls' := #[.val (.int p0), .val (.int p1), .val (.int p2), .val (.int (0 : Int32)), .val (.int (1 : Int32)), .unset, .unset, .unset, .unset, .unset]) rfl (pc' := 9) rfl ?_
        refine Jvm.OwnWp.iconst K (1 : Int32) at_9 (by decide) (pc' := 10) rfl ?_
        refine Jvm.OwnWp.iloadN K at_10 rfl (pc' := 11) rfl ?_
        refine Jvm.OwnWp.ldcI K (wd0 hw) at_11 (pc' := 13) rfl ?_
        refine Jvm.OwnWp.iand K at_13 (pc' := 14) rfl ?_
        refine Jvm.OwnWp.iconst K (3 : Int32) at_14 (by decide) (pc' := 15) rfl ?_
        refine Jvm.OwnWp.irem K at_15 (by decide) (pc' := 16) rfl ?_
        rw [qm]
        refine Jvm.OwnWp.iadd K at_16 (pc' := 17) rfl ?_
        rw [show (1 : Int32) + 0 = 1 by decide]
        refine Jvm.OwnWp.istore K at_17 (Ls' := #[.val (.int p0), .val (.int p1), .val (.int p2), .val (.int (0 : Int32)), .val (.int (1 : Int32)), .val (.int (1 : Int32)), .unset, .unset, .unset, .unset]) rfl (pc' := 19) rfl ?_
        refine Jvm.OwnWp.iloadN K at_19 rfl (pc' := 20) rfl ?_
        refine Jvm.OwnWp.ldcI K (wd0 hw) at_20 (pc' := 22) rfl ?_
        refine Jvm.OwnWp.iand K at_22 (pc' := 23) rfl ?_
        refine Jvm.OwnWp.iconst K (5 : Int32) at_23 (by decide) (pc' := 24) rfl ?_
        refine Jvm.OwnWp.irem K at_24 (by decide) (pc' := 25) rfl ?_
        rw [qk]
        refine Jvm.OwnWp.istore K at_25 (Ls' := #[.val (.int p0), .val (.int p1), .val (.int p2), .val (.int (0 : Int32)), .val (.int (1 : Int32)), .val (.int (1 : Int32)), .val (.int (4 : Int32)), .unset, .unset, .unset]) rfl (pc' := 27) rfl ?_
        refine newObj K (wd1 hw) (wd2 hw) (wd3 hw) at_27 (by decide) (by decide) (pc' := 30) rfl ?_
        intro h80 b80 g80 E80 A80 D80
        have lt_b80 : h0.size ≤ b80 := Nat.le_trans P0.1 (Nat.le_of_eq g80.symm)
        have ge_b80 : n0 ≤ b80 := Nat.le_trans Z0 lt_b80
        have P80 := (P0.ext E80)
        have F80_gain_b80 : Fld Z h80 b80 "com/example/sightline/sightline/checker/ByActivity" "gain" "D" (.double (0 : UInt64)) := D80 (Or.inl (wd11 hw)) (ty := .double) (by decide)
        have F80_choices_b80 : Fld Z h80 b80 "com/example/sightline/sightline/checker/ByActivity" "choices" "I" (.int (0 : Int32)) := D80 (Or.inr (wd13 hw)) (ty := .int) (by decide)
        have F80_activity_b80 : Fld Z h80 b80 "com/example/sightline/sightline/checker/ByActivity" "activity" "[D" .null := D80 (Or.inl (wd24 hw)) (ty := (.array .double)) (by decide)
        have F80_heap_b80 : Fld Z h80 b80 "com/example/sightline/sightline/checker/ByActivity" "heap" "[I" .null := D80 (Or.inl (wd28 hw)) (ty := (.array .int)) (by decide)
        have F80_slot_b80 : Fld Z h80 b80 "com/example/sightline/sightline/checker/ByActivity" "slot" "[I" .null := D80 (Or.inl (wd30 hw)) (ty := (.array .int)) (by decide)
        have F80_count_b80 : Fld Z h80 b80 "com/example/sightline/sightline/checker/ByActivity" "count" "I" (.int (0 : Int32)) := D80 (Or.inl (wd42 hw)) (ty := .int) (by decide)
        refine Jvm.OwnWp.dup K at_30 rfl (pc' := 31) rfl ?_
        refine Jvm.OwnWp.iconst K (2 : Int32) at_31 (by decide) (pc' := 32) rfl ?_
        refine callInit K (y := (⟨"com/example/sightline/sightline/checker/ByActivity", "<init>", "(I)V"⟩ : MethodName)) (b := b80) (argsL := [(.int (2 : Int32))]) (S := [(.ref b80)]) rfl (wd4 hw) (wd5 hw) (wd3 hw) (wd6 hw) rfl (by decide) (c_init l Z a0 hw [] b80 2 h80 n0 (Nat.le_trans Z0 P80.1) A80 ge_b80 F80_gain_b80 F80_choices_b80 F80_activity_b80 F80_heap_b80 F80_slot_b80 F80_count_b80) (lenOf pd1 rfl) at_32 rfl (Nat.le_of_ble_eq_true rfl) (Nat.le_of_ble_eq_true rfl) (Nat.le_of_ble_eq_true rfl) (Nat.le_of_ble_eq_true rfl) rfl (pc' := 35) rfl ?_
        rintro v81 h81 ⟨rfl, K81, I81_gain, I81_choices, I81_activity, I81_heap, I81_slot, I81_count⟩
        have X81_b80 := (Exa.keep A80 K81)
        have P81 := (P80.trans K81 (allS (Or.inr lt_b80) (all0)))
        show Go _ _ _ _ _ _ _ _ _ _ _ h81 1 6 (mkF m 35 #[.val (.int p0), .val (.int p1), .val (.int p2), .val (.int (0 : Int32)), .val (.int (1 : Int32)), .val (.int (1 : Int32)), .val (.int (4 : Int32)), .unset, .unset, .unset] [(.ref b80)]) _
        refine Jvm.OwnWp.astore K at_35 rfl (Ls' := #[.val (.int p0), .val (.int p1), .val (.int p2), .val (.int (0 : Int32)), .val (.int (1 : Int32)), .val (.int (1 : Int32)), .val (.int (4 : Int32)), .val (.ref b80), .unset, .unset]) rfl (pc' := 37) rfl ?_
        refine Jvm.OwnWp.aload K at_37 rfl rfl (pc' := 39) rfl ?_
        refine Jvm.OwnWp.iloadN K at_39 rfl (pc' := 40) rfl ?_
        refine Jvm.OwnWp.iload K at_40 rfl (pc' := 42) rfl ?_
        refine callStatic K (y := (⟨"com/example/sightline/sightline/checker/ByActivityDecayPinLaw", "bumps", "(Lcom/example/sightline/sightline/checker/ByActivity;II)V"⟩ : MethodName)) (argsL := [(.ref b80), (.int (0 : Int32)), (.int (1 : Int32))]) (S := []) (wd14 hw) (wd15 hw) (wd16 hw) (wd17 hw) (by decide) (c_b01 l Z a0 hw [] b80 h81 n0 (Nat.le_trans Z0 P81.1) X81_b80 I81_activity I81_heap I81_slot I81_count I81_gain I81_choices ge_b80) (lenOf pd4 rfl) at_42 rfl (Nat.le_of_ble_eq_true rfl) (Nat.le_of_ble_eq_true rfl) (Nat.le_of_ble_eq_true rfl) (Nat.le_of_ble_eq_true rfl) rfl (pc' := 45) rfl ?_
        rintro v82 h82 ⟨rfl, K82, ka, ha, sa, Hl, Sl, zk, zh, zs, ne_ha_ka, ne_sa_ka, ne_sa_ha, wf, rt, Q82_E, Q82_F_act, Q82_F_heap, Q82_F_slot, Q82_F_count, Q82_F_gain, Q82_F_choices, Q82_VA, Q82_VH, Q82_VS⟩
        have ne_b80_ka : b80 ≠ ka := Nat.ne_of_lt (Nat.lt_of_lt_of_le (Exa.lt X81_b80) zk)
        have lt_ka : h0.size ≤ ka := Nat.le_trans P81.1 zk
        have ge_ka : n0 ≤ ka := Nat.le_trans Z0 lt_ka
        have ne_b80_ha : b80 ≠ ha := Nat.ne_of_lt (Nat.lt_of_lt_of_le (Exa.lt X81_b80) zh)
        have lt_ha : h0.size ≤ ha := Nat.le_trans P81.1 zh
        have ge_ha : n0 ≤ ha := Nat.le_trans Z0 lt_ha
        have ne_b80_sa : b80 ≠ sa := Nat.ne_of_lt (Nat.lt_of_lt_of_le (Exa.lt X81_b80) zs)
        have lt_sa : h0.size ≤ sa := Nat.le_trans P81.1 zs
        have ge_sa : n0 ≤ sa := Nat.le_trans Z0 lt_sa
        have X82_b80 := (Exa.keep X81_b80 K82)
        have P82 := (P81.trans K82 (allS (Or.inr lt_b80) (all0)))
        show Go _ _ _ _ _ _ _ _ _ _ _ h82 4 21 (mkF m 45 #[.val (.int p0), .val (.int p1), .val (.int p2), .val (.int (0 : Int32)), .val (.int (1 : Int32)), .val (.int (1 : Int32)), .val (.int (4 : Int32)), .val (.ref b80), .unset, .unset] []) _
        refine Jvm.OwnWp.aload K at_45 rfl rfl (pc' := 47) rfl ?_
        refine Jvm.OwnWp.iload K at_47 rfl (pc' := 49) rfl ?_
        refine callStatic K (y := (⟨"com/example/sightline/sightline/checker/ByActivityDecayPinLaw", "decays", "(Lcom/example/sightline/sightline/checker/ByActivity;I)V"⟩ : MethodName)) (argsL := [(.ref b80), (.int (4 : Int32))]) (S := []) (wd51 hw) (wd52 hw) (wd16 hw) (wd53 hw) (by decide) (c_dec4 l Z a0 hw [] b80 ka ha sa h82 n0 (Nat.le_trans Z0 P82.1) Q82_E Q82_F_act Q82_F_heap Q82_F_slot Q82_F_count Q82_F_gain Q82_F_choices ge_b80) (lenOf pd5 rfl) at_49 rfl (Nat.le_of_ble_eq_true rfl) (Nat.le_of_ble_eq_true rfl) (Nat.le_of_ble_eq_true rfl) (Nat.le_of_ble_eq_true rfl) rfl (pc' := 52) rfl ?_
        rintro v83 h83 ⟨rfl, K83, Q83_F_act, Q83_F_heap, Q83_F_slot, Q83_F_count, Q83_F_gain, Q83_F_choices⟩
        have X83_b80 := (Exa.keep Q82_E K83)
        have V83_ka := (Q82_VA.keep K83 (ninS (Ne.symm ne_b80_ka) (nin0)))
        have V83_ha := (Q82_VH.keep K83 (ninS (Ne.symm ne_b80_ha) (nin0)))
        have V83_sa := (Q82_VS.keep K83 (ninS (Ne.symm ne_b80_sa) (nin0)))
        have P83 := (P82.trans K83 (allS (Or.inr lt_b80) (all0)))
        show Go _ _ _ _ _ _ _ _ _ _ _ h83 4 21 (mkF m 52 #[.val (.int p0), .val (.int p1), .val (.int p2), .val (.int (0 : Int32)), .val (.int (1 : Int32)), .val (.int (1 : Int32)), .val (.int (4 : Int32)), .val (.ref b80), .unset, .unset] []) _
        refine Jvm.OwnWp.aload K at_52 rfl rfl (pc' := 54) rfl ?_
        refine Jvm.OwnWp.iload K at_54 rfl (pc' := 56) rfl ?_
        refine callVirt K (y := (⟨"com/example/sightline/sightline/checker/ByActivity", "bump", "(I)V"⟩ : MethodName)) (b := b80) (argsL := [(.int (1 : Int32))]) (S := []) (wd18 hw) (wd19 hw) (wd21 hw) (wd20 hw) (wd3 hw) (wd22 hw) (by decide) X83_b80 (c_bumpN l Z a0 hw [] b80 ka ha sa 2 1 4616375314166007746 [4607182418800017408, 0] Hl Sl 1 h83 n0 (Nat.le_trans Z0 P83.1) rfl wf.1 wf.2.1 (by decide) (by decide) wf.2.2.2.1 (by decide) (by decide) (Jvm.Free.Fl.val64_no.mpr (by decide +kernel)) (by decide +kernel) (abs1 wf rt (by decide) (by decide)) X83_b80 Q83_F_act Q83_F_heap Q83_F_slot Q83_F_count Q83_F_gain Q83_F_choices V83_ka V83_ha V83_sa (Ne.symm ne_b80_ka) (Ne.symm ne_b80_ha) (Ne.symm ne_b80_sa) ne_ha_ka ne_sa_ka ne_sa_ha ge_b80 ge_ka ge_ha ge_sa) (lenOf pd1 rfl) at_56 rfl (Nat.le_of_ble_eq_true rfl) (Nat.le_of_ble_eq_true rfl) (Nat.le_of_ble_eq_true rfl) (Nat.le_of_ble_eq_true rfl) rfl (pc' := 59) rfl ?_
        rintro v84 h84 ⟨rfl, K84, Q84_E, Q84_F_act, Q84_F_heap, Q84_F_slot, Q84_F_count, Q84_F_gain, Q84_F_choices, Q84_VA, Q84_VH, Q84_VS⟩
        have X84_b80 := (Exa.keep X83_b80 K84)
        have P84 := (P83.trans K84 (allS (Or.inr lt_b80) (allS (Or.inr lt_ka) (allS (Or.inr lt_ha) (allS (Or.inr lt_sa) (all0))))))
        show Go _ _ _ _ _ _ _ _ _ _ _ h84 4 21 (mkF m 59 #[.val (.int p0), .val (.int p1), .val (.int p2), .val (.int (0 : Int32)), .val (.int (1 : Int32)), .val (.int (1 : Int32)), .val (.int (4 : Int32)), .val (.ref b80), .unset, .unset] []) _
        rw [show ([4607182418800017408, 0].set 1 (FP.dadd ([4607182418800017408, 0].getD 1 0) 4616375314166007746)) = [4607182418800017408, 4616375314166007746] from (by decide +kernel)] at Q84_VA Q84_VH Q84_VS
        have hA2 : Nums [4607182418800017408, 4616375314166007746] := nums2 (by unfold Jvm.OwnHeap.Num; decide +kernel) (by unfold Jvm.OwnHeap.Num; decide +kernel)
        have wf2 := (push_spec (by decide) hA2 wf ord1 (by decide) (by decide : 1 < 2) (abs1 wf rt (by decide) (by decide))).1
        have rt2 := push_root (A := [4607182418800017408, 4616375314166007746]) (c := 1) (S := Sl) wf.1 rt
        rw [if_pos (by decide +kernel)] at rt2
        generalize pushB [4607182418800017408, 4616375314166007746] 1 Hl Sl 1 = U84 at *
        have Q84_F_count : Fld Z h84 b80 "com/example/sightline/sightline/checker/ByActivity" "count" "I" (.int (Int32.ofNat 2)) := Q84_F_count
        refine Jvm.OwnWp.iload K at_59 rfl (pc' := 61) rfl ?_
        refine Jvm.OwnWp.iconst K (1 : Int32) at_61 (by decide) (pc' := 62) rfl ?_
        refine icN K at_62 (by decide) (pc' := 65) rfl ?_
        refine Jvm.OwnWp.iload K at_65 rfl (pc' := 67) rfl ?_
        refine Jvm.OwnWp.iconst K (1 : Int32) at_67 (by decide) (pc' := 68) rfl ?_
        refine icY K at_68 (by decide) (pc' := 95) (by decide) (by decide) ?_
        refine Jvm.OwnWp.iconst K (1 : Int32) at_95 (by decide) (pc' := 96) rfl ?_
        refine goto' K at_96 (pc' := 100) (by decide) (by decide) ?_
        refine Jvm.OwnWp.istore K at_100 (Ls' := #[.val (.int p0), .val (.int p1), .val (.int p2), .val (.int (0 : Int32)), .val (.int (1 : Int32)), .val (.int (1 : Int32)), .val (.int (4 : Int32)), .val (.ref b80), .val (.int (1 : Int32)), .unset]) rfl (pc' := 102) rfl ?_
        refine Jvm.OwnWp.iload K at_102 rfl (pc' := 104) rfl ?_
        refine ifN K at_104 (by decide) (pc' := 107) rfl ?_
        refine Jvm.OwnWp.iload K at_107 rfl (pc' := 109) rfl ?_
        refine goto' K at_109 (pc' := 113) (by decide) (by decide) ?_
        refine Jvm.OwnWp.istore K at_113 (Ls' := #[.val (.int p0), .val (.int p1), .val (.int p2), .val (.int (0 : Int32)), .val (.int (1 : Int32)), .val (.int (1 : Int32)), .val (.int (4 : Int32)), .val (.ref b80), .val (.int (1 : Int32)), .val (.int (1 : Int32))]) rfl (pc' := 115) rfl ?_
        refine Jvm.OwnWp.aload K at_115 rfl rfl (pc' := 117) rfl ?_
        refine callVirt K (y := (⟨"com/example/sightline/sightline/checker/ByActivity", "pop", "()I"⟩ : MethodName)) (b := b80) (argsL := []) (S := []) (wd60 hw) (wd61 hw) (wd63 hw) (wd62 hw) (wd3 hw) (wd64 hw) (by decide) Q84_E (c_pop l Z a0 hw [] b80 ka ha sa 2 2 4616375314166007746 [4607182418800017408, 4616375314166007746] U84.1 U84.2 h84 n0 (Nat.le_trans Z0 P84.1) rfl wf2.1 wf2.2.1 (by decide) (by decide) wf2.2.2.2.1 (by decide) (by decide) Q84_E Q84_F_act Q84_F_heap Q84_F_slot Q84_F_count Q84_F_gain Q84_F_choices Q84_VA Q84_VH Q84_VS (Ne.symm ne_b80_ka) (Ne.symm ne_b80_ha) (Ne.symm ne_b80_sa) ne_ha_ka ne_sa_ka ne_sa_ha ge_b80 ge_ka ge_ha ge_sa) (lenOf pd6 rfl) at_117 rfl (Nat.le_of_ble_eq_true rfl) (Nat.le_of_ble_eq_true rfl) (Nat.le_of_ble_eq_true rfl) (Nat.le_of_ble_eq_true rfl) rfl (pc' := 120) rfl ?_
        rintro v85 h85 ⟨rfl, K85, Q85_E, Q85_F_act, Q85_F_heap, Q85_F_slot, Q85_F_count, Q85_F_gain, Q85_F_choices, Q85_VA, Q85_VH, Q85_VS⟩
        have X85_b80 := (Exa.keep Q84_E K85)
        have V85_ka := (Q84_VA.keep K85 (ninS (Ne.symm ne_b80_ka) (ninS (Ne.symm ne_ha_ka) (ninS (Ne.symm ne_sa_ka) (nin0)))))
        have P85 := (P84.trans K85 (allS (Or.inr lt_b80) (allS (Or.inr lt_ha) (allS (Or.inr lt_sa) (all0)))))
        show Go _ _ _ _ _ _ _ _ _ _ _ h85 4 21 (mkF m 120 #[.val (.int p0), .val (.int p1), .val (.int p2), .val (.int (0 : Int32)), .val (.int (1 : Int32)), .val (.int (1 : Int32)), .val (.int (4 : Int32)), .val (.ref b80), .val (.int (1 : Int32)), .val (.int (1 : Int32))] [(.int (Int32.ofNat (U84.1.getD 0 0)))]) _
        rw [rt2, show Int32.ofNat 1 = 1 from rfl]
        refine Jvm.OwnWp.iload K at_120 rfl (pc' := 122) rfl ?_
        refine icN K at_122 (by decide) (pc' := 125) rfl ?_
        refine Jvm.OwnWp.iconst K (1 : Int32) at_125 (by decide) (pc' := 126) rfl ?_
        refine goto' K at_126 (pc' := 130) (by decide) (by decide) ?_
        refine retB K (t := .boolean) rfl (by simp) at_130 (Nat.le_of_ble_eq_true rfl) (Nat.le_of_ble_eq_true rfl) ?_
        rfl
    · rcases own_k p2 with qk | qk | qk | qk | qk
      · refine Jvm.OwnWp.iloadN K at_0 rfl (pc' := 1) rfl ?_
        refine Jvm.OwnWp.iconst K (1 : Int32) at_1 (by decide) (pc' := 2) rfl ?_
        refine Jvm.OwnWp.iand K at_2 (pc' := 3) rfl ?_
        rw [qa]
        refine Jvm.OwnWp.istoreN K at_3 (Ls' := #[.val (.int p0), .val (.int p1), .val (.int p2), .val (.int (0 : Int32)), .unset, .unset, .unset, .unset, .unset, .unset]) rfl (pc' := 4) rfl ?_
        refine Jvm.OwnWp.iconst K (1 : Int32) at_4 (by decide) (pc' := 5) rfl ?_
        refine Jvm.OwnWp.iloadN K at_5 rfl (pc' := 6) rfl ?_
        refine Jvm.OwnWp.isub K at_6 (pc' := 7) rfl ?_
        rw [show (1 : Int32) - 0 = 1 by decide]
        refine Jvm.OwnWp.istore K at_7 (Ls' := #[.val (.int p0), .val (.int p1), .val (.int p2), .val (.int (0 : Int32)), .val (.int (1 : Int32)), .unset, .unset, .unset, .unset, .unset]) rfl (pc' := 9) rfl ?_
        refine Jvm.OwnWp.iconst K (1 : Int32) at_9 (by decide) (pc' := 10) rfl ?_
        refine Jvm.OwnWp.iloadN K at_10 rfl (pc' := 11) rfl ?_
        refine Jvm.OwnWp.ldcI K (wd0 hw) at_11 (pc' := 13) rfl ?_
        refine Jvm.OwnWp.iand K at_13 (pc' := 14) rfl ?_
        refine Jvm.OwnWp.iconst K (3 : Int32) at_14 (by decide) (pc' := 15) rfl ?_
        refine Jvm.OwnWp.irem K at_15 (by decide) (pc' := 16) rfl ?_
        rw [qm]
        refine Jvm.OwnWp.iadd K at_16 (pc' := 17) rfl ?_
        rw [show (1 : Int32) + 1 = 2 by decide]
        refine Jvm.OwnWp.istore K at_17 (Ls' := #[.val (.int p0), .val (.int p1), .val (.int p2), .val (.int (0 : Int32)), .val (.int (1 : Int32)), .val (.int (2 : Int32)), .unset, .unset, .unset, .unset]) rfl (pc' := 19) rfl ?_
        refine Jvm.OwnWp.iloadN K at_19 rfl (pc' := 20) rfl ?_
        refine Jvm.OwnWp.ldcI K (wd0 hw) at_20 (pc' := 22) rfl ?_
        refine Jvm.OwnWp.iand K at_22 (pc' := 23) rfl ?_
        refine Jvm.OwnWp.iconst K (5 : Int32) at_23 (by decide) (pc' := 24) rfl ?_
        refine Jvm.OwnWp.irem K at_24 (by decide) (pc' := 25) rfl ?_
        rw [qk]
        refine Jvm.OwnWp.istore K at_25 (Ls' := #[.val (.int p0), .val (.int p1), .val (.int p2), .val (.int (0 : Int32)), .val (.int (1 : Int32)), .val (.int (2 : Int32)), .val (.int (0 : Int32)), .unset, .unset, .unset]) rfl (pc' := 27) rfl ?_
        refine newObj K (wd1 hw) (wd2 hw) (wd3 hw) at_27 (by decide) (by decide) (pc' := 30) rfl ?_
        intro h86 b86 g86 E86 A86 D86
        have lt_b86 : h0.size ≤ b86 := Nat.le_trans P0.1 (Nat.le_of_eq g86.symm)
        have ge_b86 : n0 ≤ b86 := Nat.le_trans Z0 lt_b86
        have P86 := (P0.ext E86)
        have F86_gain_b86 : Fld Z h86 b86 "com/example/sightline/sightline/checker/ByActivity" "gain" "D" (.double (0 : UInt64)) := D86 (Or.inl (wd11 hw)) (ty := .double) (by decide)
        have F86_choices_b86 : Fld Z h86 b86 "com/example/sightline/sightline/checker/ByActivity" "choices" "I" (.int (0 : Int32)) := D86 (Or.inr (wd13 hw)) (ty := .int) (by decide)
        have F86_activity_b86 : Fld Z h86 b86 "com/example/sightline/sightline/checker/ByActivity" "activity" "[D" .null := D86 (Or.inl (wd24 hw)) (ty := (.array .double)) (by decide)
        have F86_heap_b86 : Fld Z h86 b86 "com/example/sightline/sightline/checker/ByActivity" "heap" "[I" .null := D86 (Or.inl (wd28 hw)) (ty := (.array .int)) (by decide)
        have F86_slot_b86 : Fld Z h86 b86 "com/example/sightline/sightline/checker/ByActivity" "slot" "[I" .null := D86 (Or.inl (wd30 hw)) (ty := (.array .int)) (by decide)
        have F86_count_b86 : Fld Z h86 b86 "com/example/sightline/sightline/checker/ByActivity" "count" "I" (.int (0 : Int32)) := D86 (Or.inl (wd42 hw)) (ty := .int) (by decide)
        refine Jvm.OwnWp.dup K at_30 rfl (pc' := 31) rfl ?_
        refine Jvm.OwnWp.iconst K (2 : Int32) at_31 (by decide) (pc' := 32) rfl ?_
        refine callInit K (y := (⟨"com/example/sightline/sightline/checker/ByActivity", "<init>", "(I)V"⟩ : MethodName)) (b := b86) (argsL := [(.int (2 : Int32))]) (S := [(.ref b86)]) rfl (wd4 hw) (wd5 hw) (wd3 hw) (wd6 hw) rfl (by decide) (c_init l Z a0 hw [] b86 2 h86 n0 (Nat.le_trans Z0 P86.1) A86 ge_b86 F86_gain_b86 F86_choices_b86 F86_activity_b86 F86_heap_b86 F86_slot_b86 F86_count_b86) (lenOf pd1 rfl) at_32 rfl (Nat.le_of_ble_eq_true rfl) (Nat.le_of_ble_eq_true rfl) (Nat.le_of_ble_eq_true rfl) (Nat.le_of_ble_eq_true rfl) rfl (pc' := 35) rfl ?_
        rintro v87 h87 ⟨rfl, K87, I87_gain, I87_choices, I87_activity, I87_heap, I87_slot, I87_count⟩
        have X87_b86 := (Exa.keep A86 K87)
        have P87 := (P86.trans K87 (allS (Or.inr lt_b86) (all0)))
        show Go _ _ _ _ _ _ _ _ _ _ _ h87 1 6 (mkF m 35 #[.val (.int p0), .val (.int p1), .val (.int p2), .val (.int (0 : Int32)), .val (.int (1 : Int32)), .val (.int (2 : Int32)), .val (.int (0 : Int32)), .unset, .unset, .unset] [(.ref b86)]) _
        refine Jvm.OwnWp.astore K at_35 rfl (Ls' := #[.val (.int p0), .val (.int p1), .val (.int p2), .val (.int (0 : Int32)), .val (.int (1 : Int32)), .val (.int (2 : Int32)), .val (.int (0 : Int32)), .val (.ref b86), .unset, .unset]) rfl (pc' := 37) rfl ?_
        refine Jvm.OwnWp.aload K at_37 rfl rfl (pc' := 39) rfl ?_
        refine Jvm.OwnWp.iloadN K at_39 rfl (pc' := 40) rfl ?_
        refine Jvm.OwnWp.iload K at_40 rfl (pc' := 42) rfl ?_
        refine callStatic K (y := (⟨"com/example/sightline/sightline/checker/ByActivityDecayPinLaw", "bumps", "(Lcom/example/sightline/sightline/checker/ByActivity;II)V"⟩ : MethodName)) (argsL := [(.ref b86), (.int (0 : Int32)), (.int (2 : Int32))]) (S := []) (wd14 hw) (wd15 hw) (wd16 hw) (wd17 hw) (by decide) (c_b02 l Z a0 hw [] b86 h87 n0 (Nat.le_trans Z0 P87.1) X87_b86 I87_activity I87_heap I87_slot I87_count I87_gain I87_choices ge_b86) (lenOf pd4 rfl) at_42 rfl (Nat.le_of_ble_eq_true rfl) (Nat.le_of_ble_eq_true rfl) (Nat.le_of_ble_eq_true rfl) (Nat.le_of_ble_eq_true rfl) rfl (pc' := 45) rfl ?_
        rintro v88 h88 ⟨rfl, K88, ka, ha, sa, Hl, Sl, zk, zh, zs, ne_ha_ka, ne_sa_ka, ne_sa_ha, wf, rt, Q88_E, Q88_F_act, Q88_F_heap, Q88_F_slot, Q88_F_count, Q88_F_gain, Q88_F_choices, Q88_VA, Q88_VH, Q88_VS⟩
        have ne_b86_ka : b86 ≠ ka := Nat.ne_of_lt (Nat.lt_of_lt_of_le (Exa.lt X87_b86) zk)
        have lt_ka : h0.size ≤ ka := Nat.le_trans P87.1 zk
        have ge_ka : n0 ≤ ka := Nat.le_trans Z0 lt_ka
        have ne_b86_ha : b86 ≠ ha := Nat.ne_of_lt (Nat.lt_of_lt_of_le (Exa.lt X87_b86) zh)
        have lt_ha : h0.size ≤ ha := Nat.le_trans P87.1 zh
        have ge_ha : n0 ≤ ha := Nat.le_trans Z0 lt_ha
        have ne_b86_sa : b86 ≠ sa := Nat.ne_of_lt (Nat.lt_of_lt_of_le (Exa.lt X87_b86) zs)
        have lt_sa : h0.size ≤ sa := Nat.le_trans P87.1 zs
        have ge_sa : n0 ≤ sa := Nat.le_trans Z0 lt_sa
        have X88_b86 := (Exa.keep X87_b86 K88)
        have P88 := (P87.trans K88 (allS (Or.inr lt_b86) (all0)))
        show Go _ _ _ _ _ _ _ _ _ _ _ h88 4 21 (mkF m 45 #[.val (.int p0), .val (.int p1), .val (.int p2), .val (.int (0 : Int32)), .val (.int (1 : Int32)), .val (.int (2 : Int32)), .val (.int (0 : Int32)), .val (.ref b86), .unset, .unset] []) _
        refine Jvm.OwnWp.aload K at_45 rfl rfl (pc' := 47) rfl ?_
        refine Jvm.OwnWp.iload K at_47 rfl (pc' := 49) rfl ?_
        refine callStatic K (y := (⟨"com/example/sightline/sightline/checker/ByActivityDecayPinLaw", "decays", "(Lcom/example/sightline/sightline/checker/ByActivity;I)V"⟩ : MethodName)) (argsL := [(.ref b86), (.int (0 : Int32))]) (S := []) (wd51 hw) (wd52 hw) (wd16 hw) (wd53 hw) (by decide) (c_dec0 l Z a0 hw [] b86 ka ha sa h88 n0 (Nat.le_trans Z0 P88.1) Q88_E Q88_F_act Q88_F_heap Q88_F_slot Q88_F_count Q88_F_gain Q88_F_choices ge_b86) (lenOf pd5 rfl) at_49 rfl (Nat.le_of_ble_eq_true rfl) (Nat.le_of_ble_eq_true rfl) (Nat.le_of_ble_eq_true rfl) (Nat.le_of_ble_eq_true rfl) rfl (pc' := 52) rfl ?_
        rintro v89 h89 ⟨rfl, K89, Q89_F_act, Q89_F_heap, Q89_F_slot, Q89_F_count, Q89_F_gain, Q89_F_choices⟩
        have X89_b86 := (Exa.keep Q88_E K89)
        have V89_ka := (Q88_VA.keep K89 (ninS (Ne.symm ne_b86_ka) (nin0)))
        have V89_ha := (Q88_VH.keep K89 (ninS (Ne.symm ne_b86_ha) (nin0)))
        have V89_sa := (Q88_VS.keep K89 (ninS (Ne.symm ne_b86_sa) (nin0)))
        have P89 := (P88.trans K89 (allS (Or.inr lt_b86) (all0)))
        show Go _ _ _ _ _ _ _ _ _ _ _ h89 4 21 (mkF m 52 #[.val (.int p0), .val (.int p1), .val (.int p2), .val (.int (0 : Int32)), .val (.int (1 : Int32)), .val (.int (2 : Int32)), .val (.int (0 : Int32)), .val (.ref b86), .unset, .unset] []) _
        refine Jvm.OwnWp.aload K at_52 rfl rfl (pc' := 54) rfl ?_
        refine Jvm.OwnWp.iload K at_54 rfl (pc' := 56) rfl ?_
        refine callVirt K (y := (⟨"com/example/sightline/sightline/checker/ByActivity", "bump", "(I)V"⟩ : MethodName)) (b := b86) (argsL := [(.int (1 : Int32))]) (S := []) (wd18 hw) (wd19 hw) (wd21 hw) (wd20 hw) (wd3 hw) (wd22 hw) (by decide) X89_b86 (c_bumpN l Z a0 hw [] b86 ka ha sa 2 1 4607182418800017408 [4611686018427387904, 0] Hl Sl 1 h89 n0 (Nat.le_trans Z0 P89.1) rfl wf.1 wf.2.1 (by decide) (by decide) wf.2.2.2.1 (by decide) (by decide) (Jvm.Free.Fl.val64_no.mpr (by decide +kernel)) (by decide +kernel) (abs1 wf rt (by decide) (by decide)) X89_b86 Q89_F_act Q89_F_heap Q89_F_slot Q89_F_count Q89_F_gain Q89_F_choices V89_ka V89_ha V89_sa (Ne.symm ne_b86_ka) (Ne.symm ne_b86_ha) (Ne.symm ne_b86_sa) ne_ha_ka ne_sa_ka ne_sa_ha ge_b86 ge_ka ge_ha ge_sa) (lenOf pd1 rfl) at_56 rfl (Nat.le_of_ble_eq_true rfl) (Nat.le_of_ble_eq_true rfl) (Nat.le_of_ble_eq_true rfl) (Nat.le_of_ble_eq_true rfl) rfl (pc' := 59) rfl ?_
        rintro v90 h90 ⟨rfl, K90, Q90_E, Q90_F_act, Q90_F_heap, Q90_F_slot, Q90_F_count, Q90_F_gain, Q90_F_choices, Q90_VA, Q90_VH, Q90_VS⟩
        have X90_b86 := (Exa.keep X89_b86 K90)
        have P90 := (P89.trans K90 (allS (Or.inr lt_b86) (allS (Or.inr lt_ka) (allS (Or.inr lt_ha) (allS (Or.inr lt_sa) (all0))))))
        show Go _ _ _ _ _ _ _ _ _ _ _ h90 4 21 (mkF m 59 #[.val (.int p0), .val (.int p1), .val (.int p2), .val (.int (0 : Int32)), .val (.int (1 : Int32)), .val (.int (2 : Int32)), .val (.int (0 : Int32)), .val (.ref b86), .unset, .unset] []) _
        rw [show ([4611686018427387904, 0].set 1 (FP.dadd ([4611686018427387904, 0].getD 1 0) 4607182418800017408)) = [4611686018427387904, 4607182418800017408] from (by decide +kernel)] at Q90_VA Q90_VH Q90_VS
        have hA2 : Nums [4611686018427387904, 4607182418800017408] := nums2 (by unfold Jvm.OwnHeap.Num; decide +kernel) (by unfold Jvm.OwnHeap.Num; decide +kernel)
        have wf2 := (push_spec (by decide) hA2 wf ord1 (by decide) (by decide : 1 < 2) (abs1 wf rt (by decide) (by decide))).1
        have rt2 := push_root (A := [4611686018427387904, 4607182418800017408]) (c := 1) (S := Sl) wf.1 rt
        rw [if_neg (by decide +kernel)] at rt2
        generalize pushB [4611686018427387904, 4607182418800017408] 1 Hl Sl 1 = U90 at *
        have Q90_F_count : Fld Z h90 b86 "com/example/sightline/sightline/checker/ByActivity" "count" "I" (.int (Int32.ofNat 2)) := Q90_F_count
        refine Jvm.OwnWp.iload K at_59 rfl (pc' := 61) rfl ?_
        refine Jvm.OwnWp.iconst K (1 : Int32) at_61 (by decide) (pc' := 62) rfl ?_
        refine icY K at_62 (by decide) (pc' := 71) (by decide) (by decide) ?_
        refine Jvm.OwnWp.iload K at_71 rfl (pc' := 73) rfl ?_
        refine Jvm.OwnWp.iconst K (2 : Int32) at_73 (by decide) (pc' := 74) rfl ?_
        refine icN K at_74 (by decide) (pc' := 77) rfl ?_
        refine Jvm.OwnWp.iload K at_77 rfl (pc' := 79) rfl ?_
        refine Jvm.OwnWp.iconst K (2 : Int32) at_79 (by decide) (pc' := 80) rfl ?_
        refine icN K at_80 (by decide) (pc' := 83) rfl ?_
        refine Jvm.OwnWp.iload K at_83 rfl (pc' := 85) rfl ?_
        refine Jvm.OwnWp.iconst K (3 : Int32) at_85 (by decide) (pc' := 86) rfl ?_
        refine icY K at_86 (by decide) (pc' := 99) (by decide) (by decide) ?_
        refine Jvm.OwnWp.iconst K (0 : Int32) at_99 (by decide) (pc' := 100) rfl ?_
        refine Jvm.OwnWp.istore K at_100 (Ls' := #[.val (.int p0), .val (.int p1), .val (.int p2), .val (.int (0 : Int32)), .val (.int (1 : Int32)), .val (.int (2 : Int32)), .val (.int (0 : Int32)), .val (.ref b86), .val (.int (0 : Int32)), .unset]) rfl (pc' := 102) rfl ?_
        refine Jvm.OwnWp.iload K at_102 rfl (pc' := 104) rfl ?_
        refine ifY K at_104 (by decide) (pc' := 112) (by decide) (by decide) ?_
        refine Jvm.OwnWp.iloadN K at_112 rfl (pc' := 113) rfl ?_
        refine Jvm.OwnWp.istore K at_113 (Ls' := #[.val (.int p0), .val (.int p1), .val (.int p2), .val (.int (0 : Int32)), .val (.int (1 : Int32)), .val (.int (2 : Int32)), .val (.int (0 : Int32)), .val (.ref b86), .val (.int (0 : Int32)), .val (.int (0 : Int32))]) rfl (pc' := 115) rfl ?_
        refine Jvm.OwnWp.aload K at_115 rfl rfl (pc' := 117) rfl ?_
        refine callVirt K (y := (⟨"com/example/sightline/sightline/checker/ByActivity", "pop", "()I"⟩ : MethodName)) (b := b86) (argsL := []) (S := []) (wd60 hw) (wd61 hw) (wd63 hw) (wd62 hw) (wd3 hw) (wd64 hw) (by decide) Q90_E (c_pop l Z a0 hw [] b86 ka ha sa 2 2 4607182418800017408 [4611686018427387904, 4607182418800017408] U90.1 U90.2 h90 n0 (Nat.le_trans Z0 P90.1) rfl wf2.1 wf2.2.1 (by decide) (by decide) wf2.2.2.2.1 (by decide) (by decide) Q90_E Q90_F_act Q90_F_heap Q90_F_slot Q90_F_count Q90_F_gain Q90_F_choices Q90_VA Q90_VH Q90_VS (Ne.symm ne_b86_ka) (Ne.symm ne_b86_ha) (Ne.symm ne_b86_sa) ne_ha_ka ne_sa_ka ne_sa_ha ge_b86 ge_ka ge_ha ge_sa) (lenOf pd6 rfl) at_117 rfl (Nat.le_of_ble_eq_true rfl) (Nat.le_of_ble_eq_true rfl) (Nat.le_of_ble_eq_true rfl) (Nat.le_of_ble_eq_true rfl) rfl (pc' := 120) rfl ?_
        rintro v91 h91 ⟨rfl, K91, Q91_E, Q91_F_act, Q91_F_heap, Q91_F_slot, Q91_F_count, Q91_F_gain, Q91_F_choices, Q91_VA, Q91_VH, Q91_VS⟩
        have X91_b86 := (Exa.keep Q90_E K91)
        have V91_ka := (Q90_VA.keep K91 (ninS (Ne.symm ne_b86_ka) (ninS (Ne.symm ne_ha_ka) (ninS (Ne.symm ne_sa_ka) (nin0)))))
        have P91 := (P90.trans K91 (allS (Or.inr lt_b86) (allS (Or.inr lt_ha) (allS (Or.inr lt_sa) (all0)))))
        show Go _ _ _ _ _ _ _ _ _ _ _ h91 4 21 (mkF m 120 #[.val (.int p0), .val (.int p1), .val (.int p2), .val (.int (0 : Int32)), .val (.int (1 : Int32)), .val (.int (2 : Int32)), .val (.int (0 : Int32)), .val (.ref b86), .val (.int (0 : Int32)), .val (.int (0 : Int32))] [(.int (Int32.ofNat (U90.1.getD 0 0)))]) _
        rw [rt2, show Int32.ofNat 0 = 0 from rfl]
        refine Jvm.OwnWp.iload K at_120 rfl (pc' := 122) rfl ?_
        refine icN K at_122 (by decide) (pc' := 125) rfl ?_
        refine Jvm.OwnWp.iconst K (1 : Int32) at_125 (by decide) (pc' := 126) rfl ?_
        refine goto' K at_126 (pc' := 130) (by decide) (by decide) ?_
        refine retB K (t := .boolean) rfl (by simp) at_130 (Nat.le_of_ble_eq_true rfl) (Nat.le_of_ble_eq_true rfl) ?_
        rfl
      · refine Jvm.OwnWp.iloadN K at_0 rfl (pc' := 1) rfl ?_
        refine Jvm.OwnWp.iconst K (1 : Int32) at_1 (by decide) (pc' := 2) rfl ?_
        refine Jvm.OwnWp.iand K at_2 (pc' := 3) rfl ?_
        rw [qa]
        refine Jvm.OwnWp.istoreN K at_3 (Ls' := #[.val (.int p0), .val (.int p1), .val (.int p2), .val (.int (0 : Int32)), .unset, .unset, .unset, .unset, .unset, .unset]) rfl (pc' := 4) rfl ?_
        refine Jvm.OwnWp.iconst K (1 : Int32) at_4 (by decide) (pc' := 5) rfl ?_
        refine Jvm.OwnWp.iloadN K at_5 rfl (pc' := 6) rfl ?_
        refine Jvm.OwnWp.isub K at_6 (pc' := 7) rfl ?_
        rw [show (1 : Int32) - 0 = 1 by decide]
        refine Jvm.OwnWp.istore K at_7 (Ls' := #[.val (.int p0), .val (.int p1), .val (.int p2), .val (.int (0 : Int32)), .val (.int (1 : Int32)), .unset, .unset, .unset, .unset, .unset]) rfl (pc' := 9) rfl ?_
        refine Jvm.OwnWp.iconst K (1 : Int32) at_9 (by decide) (pc' := 10) rfl ?_
        refine Jvm.OwnWp.iloadN K at_10 rfl (pc' := 11) rfl ?_
        refine Jvm.OwnWp.ldcI K (wd0 hw) at_11 (pc' := 13) rfl ?_
        refine Jvm.OwnWp.iand K at_13 (pc' := 14) rfl ?_
        refine Jvm.OwnWp.iconst K (3 : Int32) at_14 (by decide) (pc' := 15) rfl ?_
        refine Jvm.OwnWp.irem K at_15 (by decide) (pc' := 16) rfl ?_
        rw [qm]
        refine Jvm.OwnWp.iadd K at_16 (pc' := 17) rfl ?_
        rw [show (1 : Int32) + 1 = 2 by decide]
        refine Jvm.OwnWp.istore K at_17 (Ls' := #[.val (.int p0), .val (.int p1), .val (.int p2), .val (.int (0 : Int32)), .val (.int (1 : Int32)), .val (.int (2 : Int32)), .unset, .unset, .unset, .unset]) rfl (pc' := 19) rfl ?_
        refine Jvm.OwnWp.iloadN K at_19 rfl (pc' := 20) rfl ?_
        refine Jvm.OwnWp.ldcI K (wd0 hw) at_20 (pc' := 22) rfl ?_
        refine Jvm.OwnWp.iand K at_22 (pc' := 23) rfl ?_
        refine Jvm.OwnWp.iconst K (5 : Int32) at_23 (by decide) (pc' := 24) rfl ?_
        refine Jvm.OwnWp.irem K at_24 (by decide) (pc' := 25) rfl ?_
        rw [qk]
        refine Jvm.OwnWp.istore K at_25 (Ls' := #[.val (.int p0), .val (.int p1), .val (.int p2), .val (.int (0 : Int32)), .val (.int (1 : Int32)), .val (.int (2 : Int32)), .val (.int (1 : Int32)), .unset, .unset, .unset]) rfl (pc' := 27) rfl ?_
        refine newObj K (wd1 hw) (wd2 hw) (wd3 hw) at_27 (by decide) (by decide) (pc' := 30) rfl ?_
        intro h92 b92 g92 E92 A92 D92
        have lt_b92 : h0.size ≤ b92 := Nat.le_trans P0.1 (Nat.le_of_eq g92.symm)
        have ge_b92 : n0 ≤ b92 := Nat.le_trans Z0 lt_b92
        have P92 := (P0.ext E92)
        have F92_gain_b92 : Fld Z h92 b92 "com/example/sightline/sightline/checker/ByActivity" "gain" "D" (.double (0 : UInt64)) := D92 (Or.inl (wd11 hw)) (ty := .double) (by decide)
        have F92_choices_b92 : Fld Z h92 b92 "com/example/sightline/sightline/checker/ByActivity" "choices" "I" (.int (0 : Int32)) := D92 (Or.inr (wd13 hw)) (ty := .int) (by decide)
        have F92_activity_b92 : Fld Z h92 b92 "com/example/sightline/sightline/checker/ByActivity" "activity" "[D" .null := D92 (Or.inl (wd24 hw)) (ty := (.array .double)) (by decide)
        have F92_heap_b92 : Fld Z h92 b92 "com/example/sightline/sightline/checker/ByActivity" "heap" "[I" .null := D92 (Or.inl (wd28 hw)) (ty := (.array .int)) (by decide)
        have F92_slot_b92 : Fld Z h92 b92 "com/example/sightline/sightline/checker/ByActivity" "slot" "[I" .null := D92 (Or.inl (wd30 hw)) (ty := (.array .int)) (by decide)
        have F92_count_b92 : Fld Z h92 b92 "com/example/sightline/sightline/checker/ByActivity" "count" "I" (.int (0 : Int32)) := D92 (Or.inl (wd42 hw)) (ty := .int) (by decide)
        refine Jvm.OwnWp.dup K at_30 rfl (pc' := 31) rfl ?_
        refine Jvm.OwnWp.iconst K (2 : Int32) at_31 (by decide) (pc' := 32) rfl ?_
        refine callInit K (y := (⟨"com/example/sightline/sightline/checker/ByActivity", "<init>", "(I)V"⟩ : MethodName)) (b := b92) (argsL := [(.int (2 : Int32))]) (S := [(.ref b92)]) rfl (wd4 hw) (wd5 hw) (wd3 hw) (wd6 hw) rfl (by decide) (c_init l Z a0 hw [] b92 2 h92 n0 (Nat.le_trans Z0 P92.1) A92 ge_b92 F92_gain_b92 F92_choices_b92 F92_activity_b92 F92_heap_b92 F92_slot_b92 F92_count_b92) (lenOf pd1 rfl) at_32 rfl (Nat.le_of_ble_eq_true rfl) (Nat.le_of_ble_eq_true rfl) (Nat.le_of_ble_eq_true rfl) (Nat.le_of_ble_eq_true rfl) rfl (pc' := 35) rfl ?_
        rintro v93 h93 ⟨rfl, K93, I93_gain, I93_choices, I93_activity, I93_heap, I93_slot, I93_count⟩
        have X93_b92 := (Exa.keep A92 K93)
        have P93 := (P92.trans K93 (allS (Or.inr lt_b92) (all0)))
        show Go _ _ _ _ _ _ _ _ _ _ _ h93 1 6 (mkF m 35 #[.val (.int p0), .val (.int p1), .val (.int p2), .val (.int (0 : Int32)), .val (.int (1 : Int32)), .val (.int (2 : Int32)), .val (.int (1 : Int32)), .unset, .unset, .unset] [(.ref b92)]) _
        refine Jvm.OwnWp.astore K at_35 rfl (Ls' := #[.val (.int p0), .val (.int p1), .val (.int p2), .val (.int (0 : Int32)), .val (.int (1 : Int32)), .val (.int (2 : Int32)), .val (.int (1 : Int32)), .val (.ref b92), .unset, .unset]) rfl (pc' := 37) rfl ?_
        refine Jvm.OwnWp.aload K at_37 rfl rfl (pc' := 39) rfl ?_
        refine Jvm.OwnWp.iloadN K at_39 rfl (pc' := 40) rfl ?_
        refine Jvm.OwnWp.iload K at_40 rfl (pc' := 42) rfl ?_
        refine callStatic K (y := (⟨"com/example/sightline/sightline/checker/ByActivityDecayPinLaw", "bumps", "(Lcom/example/sightline/sightline/checker/ByActivity;II)V"⟩ : MethodName)) (argsL := [(.ref b92), (.int (0 : Int32)), (.int (2 : Int32))]) (S := []) (wd14 hw) (wd15 hw) (wd16 hw) (wd17 hw) (by decide) (c_b02 l Z a0 hw [] b92 h93 n0 (Nat.le_trans Z0 P93.1) X93_b92 I93_activity I93_heap I93_slot I93_count I93_gain I93_choices ge_b92) (lenOf pd4 rfl) at_42 rfl (Nat.le_of_ble_eq_true rfl) (Nat.le_of_ble_eq_true rfl) (Nat.le_of_ble_eq_true rfl) (Nat.le_of_ble_eq_true rfl) rfl (pc' := 45) rfl ?_
        rintro v94 h94 ⟨rfl, K94, ka, ha, sa, Hl, Sl, zk, zh, zs, ne_ha_ka, ne_sa_ka, ne_sa_ha, wf, rt, Q94_E, Q94_F_act, Q94_F_heap, Q94_F_slot, Q94_F_count, Q94_F_gain, Q94_F_choices, Q94_VA, Q94_VH, Q94_VS⟩
        have ne_b92_ka : b92 ≠ ka := Nat.ne_of_lt (Nat.lt_of_lt_of_le (Exa.lt X93_b92) zk)
        have lt_ka : h0.size ≤ ka := Nat.le_trans P93.1 zk
        have ge_ka : n0 ≤ ka := Nat.le_trans Z0 lt_ka
        have ne_b92_ha : b92 ≠ ha := Nat.ne_of_lt (Nat.lt_of_lt_of_le (Exa.lt X93_b92) zh)
        have lt_ha : h0.size ≤ ha := Nat.le_trans P93.1 zh
        have ge_ha : n0 ≤ ha := Nat.le_trans Z0 lt_ha
        have ne_b92_sa : b92 ≠ sa := Nat.ne_of_lt (Nat.lt_of_lt_of_le (Exa.lt X93_b92) zs)
        have lt_sa : h0.size ≤ sa := Nat.le_trans P93.1 zs
        have ge_sa : n0 ≤ sa := Nat.le_trans Z0 lt_sa
        have X94_b92 := (Exa.keep X93_b92 K94)
        have P94 := (P93.trans K94 (allS (Or.inr lt_b92) (all0)))
        show Go _ _ _ _ _ _ _ _ _ _ _ h94 4 21 (mkF m 45 #[.val (.int p0), .val (.int p1), .val (.int p2), .val (.int (0 : Int32)), .val (.int (1 : Int32)), .val (.int (2 : Int32)), .val (.int (1 : Int32)), .val (.ref b92), .unset, .unset] []) _
        refine Jvm.OwnWp.aload K at_45 rfl rfl (pc' := 47) rfl ?_
        refine Jvm.OwnWp.iload K at_47 rfl (pc' := 49) rfl ?_
        refine callStatic K (y := (⟨"com/example/sightline/sightline/checker/ByActivityDecayPinLaw", "decays", "(Lcom/example/sightline/sightline/checker/ByActivity;I)V"⟩ : MethodName)) (argsL := [(.ref b92), (.int (1 : Int32))]) (S := []) (wd51 hw) (wd52 hw) (wd16 hw) (wd53 hw) (by decide) (c_dec1 l Z a0 hw [] b92 ka ha sa h94 n0 (Nat.le_trans Z0 P94.1) Q94_E Q94_F_act Q94_F_heap Q94_F_slot Q94_F_count Q94_F_gain Q94_F_choices ge_b92) (lenOf pd5 rfl) at_49 rfl (Nat.le_of_ble_eq_true rfl) (Nat.le_of_ble_eq_true rfl) (Nat.le_of_ble_eq_true rfl) (Nat.le_of_ble_eq_true rfl) rfl (pc' := 52) rfl ?_
        rintro v95 h95 ⟨rfl, K95, Q95_F_act, Q95_F_heap, Q95_F_slot, Q95_F_count, Q95_F_gain, Q95_F_choices⟩
        have X95_b92 := (Exa.keep Q94_E K95)
        have V95_ka := (Q94_VA.keep K95 (ninS (Ne.symm ne_b92_ka) (nin0)))
        have V95_ha := (Q94_VH.keep K95 (ninS (Ne.symm ne_b92_ha) (nin0)))
        have V95_sa := (Q94_VS.keep K95 (ninS (Ne.symm ne_b92_sa) (nin0)))
        have P95 := (P94.trans K95 (allS (Or.inr lt_b92) (all0)))
        show Go _ _ _ _ _ _ _ _ _ _ _ h95 4 21 (mkF m 52 #[.val (.int p0), .val (.int p1), .val (.int p2), .val (.int (0 : Int32)), .val (.int (1 : Int32)), .val (.int (2 : Int32)), .val (.int (1 : Int32)), .val (.ref b92), .unset, .unset] []) _
        refine Jvm.OwnWp.aload K at_52 rfl rfl (pc' := 54) rfl ?_
        refine Jvm.OwnWp.iload K at_54 rfl (pc' := 56) rfl ?_
        refine callVirt K (y := (⟨"com/example/sightline/sightline/checker/ByActivity", "bump", "(I)V"⟩ : MethodName)) (b := b92) (argsL := [(.int (1 : Int32))]) (S := []) (wd18 hw) (wd19 hw) (wd21 hw) (wd20 hw) (wd3 hw) (wd22 hw) (by decide) X95_b92 (c_bumpN l Z a0 hw [] b92 ka ha sa 2 1 4609112532926033335 [4611686018427387904, 0] Hl Sl 1 h95 n0 (Nat.le_trans Z0 P95.1) rfl wf.1 wf.2.1 (by decide) (by decide) wf.2.2.2.1 (by decide) (by decide) (Jvm.Free.Fl.val64_no.mpr (by decide +kernel)) (by decide +kernel) (abs1 wf rt (by decide) (by decide)) X95_b92 Q95_F_act Q95_F_heap Q95_F_slot Q95_F_count Q95_F_gain Q95_F_choices V95_ka V95_ha V95_sa (Ne.symm ne_b92_ka) (Ne.symm ne_b92_ha) (Ne.symm ne_b92_sa) ne_ha_ka ne_sa_ka ne_sa_ha ge_b92 ge_ka ge_ha ge_sa) (lenOf pd1 rfl) at_56 rfl (Nat.le_of_ble_eq_true rfl) (Nat.le_of_ble_eq_true rfl) (Nat.le_of_ble_eq_true rfl) (Nat.le_of_ble_eq_true rfl) rfl (pc' := 59) rfl ?_
        rintro v96 h96 ⟨rfl, K96, Q96_E, Q96_F_act, Q96_F_heap, Q96_F_slot, Q96_F_count, Q96_F_gain, Q96_F_choices, Q96_VA, Q96_VH, Q96_VS⟩
        have X96_b92 := (Exa.keep X95_b92 K96)
        have P96 := (P95.trans K96 (allS (Or.inr lt_b92) (allS (Or.inr lt_ka) (allS (Or.inr lt_ha) (allS (Or.inr lt_sa) (all0))))))
        show Go _ _ _ _ _ _ _ _ _ _ _ h96 4 21 (mkF m 59 #[.val (.int p0), .val (.int p1), .val (.int p2), .val (.int (0 : Int32)), .val (.int (1 : Int32)), .val (.int (2 : Int32)), .val (.int (1 : Int32)), .val (.ref b92), .unset, .unset] []) _
        rw [show ([4611686018427387904, 0].set 1 (FP.dadd ([4611686018427387904, 0].getD 1 0) 4609112532926033335)) = [4611686018427387904, 4609112532926033335] from (by decide +kernel)] at Q96_VA Q96_VH Q96_VS
        have hA2 : Nums [4611686018427387904, 4609112532926033335] := nums2 (by unfold Jvm.OwnHeap.Num; decide +kernel) (by unfold Jvm.OwnHeap.Num; decide +kernel)
        have wf2 := (push_spec (by decide) hA2 wf ord1 (by decide) (by decide : 1 < 2) (abs1 wf rt (by decide) (by decide))).1
        have rt2 := push_root (A := [4611686018427387904, 4609112532926033335]) (c := 1) (S := Sl) wf.1 rt
        rw [if_neg (by decide +kernel)] at rt2
        generalize pushB [4611686018427387904, 4609112532926033335] 1 Hl Sl 1 = U96 at *
        have Q96_F_count : Fld Z h96 b92 "com/example/sightline/sightline/checker/ByActivity" "count" "I" (.int (Int32.ofNat 2)) := Q96_F_count
        refine Jvm.OwnWp.iload K at_59 rfl (pc' := 61) rfl ?_
        refine Jvm.OwnWp.iconst K (1 : Int32) at_61 (by decide) (pc' := 62) rfl ?_
        refine icY K at_62 (by decide) (pc' := 71) (by decide) (by decide) ?_
        refine Jvm.OwnWp.iload K at_71 rfl (pc' := 73) rfl ?_
        refine Jvm.OwnWp.iconst K (2 : Int32) at_73 (by decide) (pc' := 74) rfl ?_
        refine icN K at_74 (by decide) (pc' := 77) rfl ?_
        refine Jvm.OwnWp.iload K at_77 rfl (pc' := 79) rfl ?_
        refine Jvm.OwnWp.iconst K (2 : Int32) at_79 (by decide) (pc' := 80) rfl ?_
        refine icN K at_80 (by decide) (pc' := 83) rfl ?_
        refine Jvm.OwnWp.iload K at_83 rfl (pc' := 85) rfl ?_
        refine Jvm.OwnWp.iconst K (3 : Int32) at_85 (by decide) (pc' := 86) rfl ?_
        refine icY K at_86 (by decide) (pc' := 99) (by decide) (by decide) ?_
        refine Jvm.OwnWp.iconst K (0 : Int32) at_99 (by decide) (pc' := 100) rfl ?_
        refine Jvm.OwnWp.istore K at_100 (Ls' := #[.val (.int p0), .val (.int p1), .val (.int p2), .val (.int (0 : Int32)), .val (.int (1 : Int32)), .val (.int (2 : Int32)), .val (.int (1 : Int32)), .val (.ref b92), .val (.int (0 : Int32)), .unset]) rfl (pc' := 102) rfl ?_
        refine Jvm.OwnWp.iload K at_102 rfl (pc' := 104) rfl ?_
        refine ifY K at_104 (by decide) (pc' := 112) (by decide) (by decide) ?_
        refine Jvm.OwnWp.iloadN K at_112 rfl (pc' := 113) rfl ?_
        refine Jvm.OwnWp.istore K at_113 (Ls' := #[.val (.int p0), .val (.int p1), .val (.int p2), .val (.int (0 : Int32)), .val (.int (1 : Int32)), .val (.int (2 : Int32)), .val (.int (1 : Int32)), .val (.ref b92), .val (.int (0 : Int32)), .val (.int (0 : Int32))]) rfl (pc' := 115) rfl ?_
        refine Jvm.OwnWp.aload K at_115 rfl rfl (pc' := 117) rfl ?_
        refine callVirt K (y := (⟨"com/example/sightline/sightline/checker/ByActivity", "pop", "()I"⟩ : MethodName)) (b := b92) (argsL := []) (S := []) (wd60 hw) (wd61 hw) (wd63 hw) (wd62 hw) (wd3 hw) (wd64 hw) (by decide) Q96_E (c_pop l Z a0 hw [] b92 ka ha sa 2 2 4609112532926033335 [4611686018427387904, 4609112532926033335] U96.1 U96.2 h96 n0 (Nat.le_trans Z0 P96.1) rfl wf2.1 wf2.2.1 (by decide) (by decide) wf2.2.2.2.1 (by decide) (by decide) Q96_E Q96_F_act Q96_F_heap Q96_F_slot Q96_F_count Q96_F_gain Q96_F_choices Q96_VA Q96_VH Q96_VS (Ne.symm ne_b92_ka) (Ne.symm ne_b92_ha) (Ne.symm ne_b92_sa) ne_ha_ka ne_sa_ka ne_sa_ha ge_b92 ge_ka ge_ha ge_sa) (lenOf pd6 rfl) at_117 rfl (Nat.le_of_ble_eq_true rfl) (Nat.le_of_ble_eq_true rfl) (Nat.le_of_ble_eq_true rfl) (Nat.le_of_ble_eq_true rfl) rfl (pc' := 120) rfl ?_
        rintro v97 h97 ⟨rfl, K97, Q97_E, Q97_F_act, Q97_F_heap, Q97_F_slot, Q97_F_count, Q97_F_gain, Q97_F_choices, Q97_VA, Q97_VH, Q97_VS⟩
        have X97_b92 := (Exa.keep Q96_E K97)
        have V97_ka := (Q96_VA.keep K97 (ninS (Ne.symm ne_b92_ka) (ninS (Ne.symm ne_ha_ka) (ninS (Ne.symm ne_sa_ka) (nin0)))))
        have P97 := (P96.trans K97 (allS (Or.inr lt_b92) (allS (Or.inr lt_ha) (allS (Or.inr lt_sa) (all0)))))
        show Go _ _ _ _ _ _ _ _ _ _ _ h97 4 21 (mkF m 120 #[.val (.int p0), .val (.int p1), .val (.int p2), .val (.int (0 : Int32)), .val (.int (1 : Int32)), .val (.int (2 : Int32)), .val (.int (1 : Int32)), .val (.ref b92), .val (.int (0 : Int32)), .val (.int (0 : Int32))] [(.int (Int32.ofNat (U96.1.getD 0 0)))]) _
        rw [rt2, show Int32.ofNat 0 = 0 from rfl]
        refine Jvm.OwnWp.iload K at_120 rfl (pc' := 122) rfl ?_
        refine icN K at_122 (by decide) (pc' := 125) rfl ?_
        refine Jvm.OwnWp.iconst K (1 : Int32) at_125 (by decide) (pc' := 126) rfl ?_
        refine goto' K at_126 (pc' := 130) (by decide) (by decide) ?_
        refine retB K (t := .boolean) rfl (by simp) at_130 (Nat.le_of_ble_eq_true rfl) (Nat.le_of_ble_eq_true rfl) ?_
        rfl
      · refine Jvm.OwnWp.iloadN K at_0 rfl (pc' := 1) rfl ?_
        refine Jvm.OwnWp.iconst K (1 : Int32) at_1 (by decide) (pc' := 2) rfl ?_
        refine Jvm.OwnWp.iand K at_2 (pc' := 3) rfl ?_
        rw [qa]
        refine Jvm.OwnWp.istoreN K at_3 (Ls' := #[.val (.int p0), .val (.int p1), .val (.int p2), .val (.int (0 : Int32)), .unset, .unset, .unset, .unset, .unset, .unset]) rfl (pc' := 4) rfl ?_
        refine Jvm.OwnWp.iconst K (1 : Int32) at_4 (by decide) (pc' := 5) rfl ?_
        refine Jvm.OwnWp.iloadN K at_5 rfl (pc' := 6) rfl ?_
        refine Jvm.OwnWp.isub K at_6 (pc' := 7) rfl ?_
        rw [show (1 : Int32) - 0 = 1 by decide]
        refine Jvm.OwnWp.istore K at_7 (Ls' := #[.val (.int p0), .val (.int p1), .val (.int p2), .val (.int (0 : Int32)), .val (.int (1 : Int32)), .unset, .unset, .unset, .unset, .unset]) rfl (pc' := 9) rfl ?_
        refine Jvm.OwnWp.iconst K (1 : Int32) at_9 (by decide) (pc' := 10) rfl ?_
        refine Jvm.OwnWp.iloadN K at_10 rfl (pc' := 11) rfl ?_
        refine Jvm.OwnWp.ldcI K (wd0 hw) at_11 (pc' := 13) rfl ?_
        refine Jvm.OwnWp.iand K at_13 (pc' := 14) rfl ?_
        refine Jvm.OwnWp.iconst K (3 : Int32) at_14 (by decide) (pc' := 15) rfl ?_
        refine Jvm.OwnWp.irem K at_15 (by decide) (pc' := 16) rfl ?_
        rw [qm]
        refine Jvm.OwnWp.iadd K at_16 (pc' := 17) rfl ?_
        rw [show (1 : Int32) + 1 = 2 by decide]
        refine Jvm.OwnWp.istore K at_17 (Ls' := #[.val (.int p0), .val (.int p1), .val (.int p2), .val (.int (0 : Int32)), .val (.int (1 : Int32)), .val (.int (2 : Int32)), .unset, .unset, .unset, .unset]) rfl (pc' := 19) rfl ?_
        refine Jvm.OwnWp.iloadN K at_19 rfl (pc' := 20) rfl ?_
        refine Jvm.OwnWp.ldcI K (wd0 hw) at_20 (pc' := 22) rfl ?_
        refine Jvm.OwnWp.iand K at_22 (pc' := 23) rfl ?_
        refine Jvm.OwnWp.iconst K (5 : Int32) at_23 (by decide) (pc' := 24) rfl ?_
        refine Jvm.OwnWp.irem K at_24 (by decide) (pc' := 25) rfl ?_
        rw [qk]
        refine Jvm.OwnWp.istore K at_25 (Ls' := #[.val (.int p0), .val (.int p1), .val (.int p2), .val (.int (0 : Int32)), .val (.int (1 : Int32)), .val (.int (2 : Int32)), .val (.int (2 : Int32)), .unset, .unset, .unset]) rfl (pc' := 27) rfl ?_
        refine newObj K (wd1 hw) (wd2 hw) (wd3 hw) at_27 (by decide) (by decide) (pc' := 30) rfl ?_
        intro h98 b98 g98 E98 A98 D98
        have lt_b98 : h0.size ≤ b98 := Nat.le_trans P0.1 (Nat.le_of_eq g98.symm)
        have ge_b98 : n0 ≤ b98 := Nat.le_trans Z0 lt_b98
        have P98 := (P0.ext E98)
        have F98_gain_b98 : Fld Z h98 b98 "com/example/sightline/sightline/checker/ByActivity" "gain" "D" (.double (0 : UInt64)) := D98 (Or.inl (wd11 hw)) (ty := .double) (by decide)
        have F98_choices_b98 : Fld Z h98 b98 "com/example/sightline/sightline/checker/ByActivity" "choices" "I" (.int (0 : Int32)) := D98 (Or.inr (wd13 hw)) (ty := .int) (by decide)
        have F98_activity_b98 : Fld Z h98 b98 "com/example/sightline/sightline/checker/ByActivity" "activity" "[D" .null := D98 (Or.inl (wd24 hw)) (ty := (.array .double)) (by decide)
        have F98_heap_b98 : Fld Z h98 b98 "com/example/sightline/sightline/checker/ByActivity" "heap" "[I" .null := D98 (Or.inl (wd28 hw)) (ty := (.array .int)) (by decide)
        have F98_slot_b98 : Fld Z h98 b98 "com/example/sightline/sightline/checker/ByActivity" "slot" "[I" .null := D98 (Or.inl (wd30 hw)) (ty := (.array .int)) (by decide)
        have F98_count_b98 : Fld Z h98 b98 "com/example/sightline/sightline/checker/ByActivity" "count" "I" (.int (0 : Int32)) := D98 (Or.inl (wd42 hw)) (ty := .int) (by decide)
        refine Jvm.OwnWp.dup K at_30 rfl (pc' := 31) rfl ?_
        refine Jvm.OwnWp.iconst K (2 : Int32) at_31 (by decide) (pc' := 32) rfl ?_
        refine callInit K (y := (⟨"com/example/sightline/sightline/checker/ByActivity", "<init>", "(I)V"⟩ : MethodName)) (b := b98) (argsL := [(.int (2 : Int32))]) (S := [(.ref b98)]) rfl (wd4 hw) (wd5 hw) (wd3 hw) (wd6 hw) rfl (by decide) (c_init l Z a0 hw [] b98 2 h98 n0 (Nat.le_trans Z0 P98.1) A98 ge_b98 F98_gain_b98 F98_choices_b98 F98_activity_b98 F98_heap_b98 F98_slot_b98 F98_count_b98) (lenOf pd1 rfl) at_32 rfl (Nat.le_of_ble_eq_true rfl) (Nat.le_of_ble_eq_true rfl) (Nat.le_of_ble_eq_true rfl) (Nat.le_of_ble_eq_true rfl) rfl (pc' := 35) rfl ?_
        rintro v99 h99 ⟨rfl, K99, I99_gain, I99_choices, I99_activity, I99_heap, I99_slot, I99_count⟩
        have X99_b98 := (Exa.keep A98 K99)
        have P99 := (P98.trans K99 (allS (Or.inr lt_b98) (all0)))
        show Go _ _ _ _ _ _ _ _ _ _ _ h99 1 6 (mkF m 35 #[.val (.int p0), .val (.int p1), .val (.int p2), .val (.int (0 : Int32)), .val (.int (1 : Int32)), .val (.int (2 : Int32)), .val (.int (2 : Int32)), .unset, .unset, .unset] [(.ref b98)]) _
        refine Jvm.OwnWp.astore K at_35 rfl (Ls' := #[.val (.int p0), .val (.int p1), .val (.int p2), .val (.int (0 : Int32)), .val (.int (1 : Int32)), .val (.int (2 : Int32)), .val (.int (2 : Int32)), .val (.ref b98), .unset, .unset]) rfl (pc' := 37) rfl ?_
        refine Jvm.OwnWp.aload K at_37 rfl rfl (pc' := 39) rfl ?_
        refine Jvm.OwnWp.iloadN K at_39 rfl (pc' := 40) rfl ?_
        refine Jvm.OwnWp.iload K at_40 rfl (pc' := 42) rfl ?_
        refine callStatic K (y := (⟨"com/example/sightline/sightline/checker/ByActivityDecayPinLaw", "bumps", "(Lcom/example/sightline/sightline/checker/ByActivity;II)V"⟩ : MethodName)) (argsL := [(.ref b98), (.int (0 : Int32)), (.int (2 : Int32))]) (S := []) (wd14 hw) (wd15 hw) (wd16 hw) (wd17 hw) (by decide) (c_b02 l Z a0 hw [] b98 h99 n0 (Nat.le_trans Z0 P99.1) X99_b98 I99_activity I99_heap I99_slot I99_count I99_gain I99_choices ge_b98) (lenOf pd4 rfl) at_42 rfl (Nat.le_of_ble_eq_true rfl) (Nat.le_of_ble_eq_true rfl) (Nat.le_of_ble_eq_true rfl) (Nat.le_of_ble_eq_true rfl) rfl (pc' := 45) rfl ?_
        rintro v100 h100 ⟨rfl, K100, ka, ha, sa, Hl, Sl, zk, zh, zs, ne_ha_ka, ne_sa_ka, ne_sa_ha, wf, rt, Q100_E, Q100_F_act, Q100_F_heap, Q100_F_slot, Q100_F_count, Q100_F_gain, Q100_F_choices, Q100_VA, Q100_VH, Q100_VS⟩
        have ne_b98_ka : b98 ≠ ka := Nat.ne_of_lt (Nat.lt_of_lt_of_le (Exa.lt X99_b98) zk)
        have lt_ka : h0.size ≤ ka := Nat.le_trans P99.1 zk
        have ge_ka : n0 ≤ ka := Nat.le_trans Z0 lt_ka
        have ne_b98_ha : b98 ≠ ha := Nat.ne_of_lt (Nat.lt_of_lt_of_le (Exa.lt X99_b98) zh)
        have lt_ha : h0.size ≤ ha := Nat.le_trans P99.1 zh
        have ge_ha : n0 ≤ ha := Nat.le_trans Z0 lt_ha
        have ne_b98_sa : b98 ≠ sa := Nat.ne_of_lt (Nat.lt_of_lt_of_le (Exa.lt X99_b98) zs)
        have lt_sa : h0.size ≤ sa := Nat.le_trans P99.1 zs
        have ge_sa : n0 ≤ sa := Nat.le_trans Z0 lt_sa
        have X100_b98 := (Exa.keep X99_b98 K100)
        have P100 := (P99.trans K100 (allS (Or.inr lt_b98) (all0)))
        show Go _ _ _ _ _ _ _ _ _ _ _ h100 4 21 (mkF m 45 #[.val (.int p0), .val (.int p1), .val (.int p2), .val (.int (0 : Int32)), .val (.int (1 : Int32)), .val (.int (2 : Int32)), .val (.int (2 : Int32)), .val (.ref b98), .unset, .unset] []) _
        refine Jvm.OwnWp.aload K at_45 rfl rfl (pc' := 47) rfl ?_
        refine Jvm.OwnWp.iload K at_47 rfl (pc' := 49) rfl ?_
        refine callStatic K (y := (⟨"com/example/sightline/sightline/checker/ByActivityDecayPinLaw", "decays", "(Lcom/example/sightline/sightline/checker/ByActivity;I)V"⟩ : MethodName)) (argsL := [(.ref b98), (.int (2 : Int32))]) (S := []) (wd51 hw) (wd52 hw) (wd16 hw) (wd53 hw) (by decide) (c_dec2 l Z a0 hw [] b98 ka ha sa h100 n0 (Nat.le_trans Z0 P100.1) Q100_E Q100_F_act Q100_F_heap Q100_F_slot Q100_F_count Q100_F_gain Q100_F_choices ge_b98) (lenOf pd5 rfl) at_49 rfl (Nat.le_of_ble_eq_true rfl) (Nat.le_of_ble_eq_true rfl) (Nat.le_of_ble_eq_true rfl) (Nat.le_of_ble_eq_true rfl) rfl (pc' := 52) rfl ?_
        rintro v101 h101 ⟨rfl, K101, Q101_F_act, Q101_F_heap, Q101_F_slot, Q101_F_count, Q101_F_gain, Q101_F_choices⟩
        have X101_b98 := (Exa.keep Q100_E K101)
        have V101_ka := (Q100_VA.keep K101 (ninS (Ne.symm ne_b98_ka) (nin0)))
        have V101_ha := (Q100_VH.keep K101 (ninS (Ne.symm ne_b98_ha) (nin0)))
        have V101_sa := (Q100_VS.keep K101 (ninS (Ne.symm ne_b98_sa) (nin0)))
        have P101 := (P100.trans K101 (allS (Or.inr lt_b98) (all0)))
        show Go _ _ _ _ _ _ _ _ _ _ _ h101 4 21 (mkF m 52 #[.val (.int p0), .val (.int p1), .val (.int p2), .val (.int (0 : Int32)), .val (.int (1 : Int32)), .val (.int (2 : Int32)), .val (.int (2 : Int32)), .val (.ref b98), .unset, .unset] []) _
        refine Jvm.OwnWp.aload K at_52 rfl rfl (pc' := 54) rfl ?_
        refine Jvm.OwnWp.iload K at_54 rfl (pc' := 56) rfl ?_
        refine callVirt K (y := (⟨"com/example/sightline/sightline/checker/ByActivity", "bump", "(I)V"⟩ : MethodName)) (b := b98) (argsL := [(.int (1 : Int32))]) (S := []) (wd18 hw) (wd19 hw) (wd21 hw) (wd20 hw) (wd3 hw) (wd22 hw) (by decide) X101_b98 (c_bumpN l Z a0 hw [] b98 ka ha sa 2 1 4611777928623864853 [4611686018427387904, 0] Hl Sl 1 h101 n0 (Nat.le_trans Z0 P101.1) rfl wf.1 wf.2.1 (by decide) (by decide) wf.2.2.2.1 (by decide) (by decide) (Jvm.Free.Fl.val64_no.mpr (by decide +kernel)) (by decide +kernel) (abs1 wf rt (by decide) (by decide)) X101_b98 Q101_F_act Q101_F_heap Q101_F_slot Q101_F_count Q101_F_gain Q101_F_choices V101_ka V101_ha V101_sa (Ne.symm ne_b98_ka) (Ne.symm ne_b98_ha) (Ne.symm ne_b98_sa) ne_ha_ka ne_sa_ka ne_sa_ha ge_b98 ge_ka ge_ha ge_sa) (lenOf pd1 rfl) at_56 rfl (Nat.le_of_ble_eq_true rfl) (Nat.le_of_ble_eq_true rfl) (Nat.le_of_ble_eq_true rfl) (Nat.le_of_ble_eq_true rfl) rfl (pc' := 59) rfl ?_
        rintro v102 h102 ⟨rfl, K102, Q102_E, Q102_F_act, Q102_F_heap, Q102_F_slot, Q102_F_count, Q102_F_gain, Q102_F_choices, Q102_VA, Q102_VH, Q102_VS⟩
        have X102_b98 := (Exa.keep X101_b98 K102)
        have P102 := (P101.trans K102 (allS (Or.inr lt_b98) (allS (Or.inr lt_ka) (allS (Or.inr lt_ha) (allS (Or.inr lt_sa) (all0))))))
        show Go _ _ _ _ _ _ _ _ _ _ _ h102 4 21 (mkF m 59 #[.val (.int p0), .val (.int p1), .val (.int p2), .val (.int (0 : Int32)), .val (.int (1 : Int32)), .val (.int (2 : Int32)), .val (.int (2 : Int32)), .val (.ref b98), .unset, .unset] []) _
        rw [show ([4611686018427387904, 0].set 1 (FP.dadd ([4611686018427387904, 0].getD 1 0) 4611777928623864853)) = [4611686018427387904, 4611777928623864853] from (by decide +kernel)] at Q102_VA Q102_VH Q102_VS
        have hA2 : Nums [4611686018427387904, 4611777928623864853] := nums2 (by unfold Jvm.OwnHeap.Num; decide +kernel) (by unfold Jvm.OwnHeap.Num; decide +kernel)
        have wf2 := (push_spec (by decide) hA2 wf ord1 (by decide) (by decide : 1 < 2) (abs1 wf rt (by decide) (by decide))).1
        have rt2 := push_root (A := [4611686018427387904, 4611777928623864853]) (c := 1) (S := Sl) wf.1 rt
        rw [if_pos (by decide +kernel)] at rt2
        generalize pushB [4611686018427387904, 4611777928623864853] 1 Hl Sl 1 = U102 at *
        have Q102_F_count : Fld Z h102 b98 "com/example/sightline/sightline/checker/ByActivity" "count" "I" (.int (Int32.ofNat 2)) := Q102_F_count
        refine Jvm.OwnWp.iload K at_59 rfl (pc' := 61) rfl ?_
        refine Jvm.OwnWp.iconst K (1 : Int32) at_61 (by decide) (pc' := 62) rfl ?_
        refine icY K at_62 (by decide) (pc' := 71) (by decide) (by decide) ?_
        refine Jvm.OwnWp.iload K at_71 rfl (pc' := 73) rfl ?_
        refine Jvm.OwnWp.iconst K (2 : Int32) at_73 (by decide) (pc' := 74) rfl ?_
        refine icN K at_74 (by decide) (pc' := 77) rfl ?_
        refine Jvm.OwnWp.iload K at_77 rfl (pc' := 79) rfl ?_
        refine Jvm.OwnWp.iconst K (2 : Int32) at_79 (by decide) (pc' := 80) rfl ?_
        refine icY K at_80 (by decide) (pc' := 95) (by decide) (by decide) ?_
        refine Jvm.OwnWp.iconst K (1 : Int32) at_95 (by decide) (pc' := 96) rfl ?_
        refine goto' K at_96 (pc' := 100) (by decide) (by decide) ?_
        refine Jvm.OwnWp.istore K at_100 (Ls' := #[.val (.int p0), .val (.int p1), .val (.int p2), .val (.int (0 : Int32)), .val (.int (1 : Int32)), .val (.int (2 : Int32)), .val (.int (2 : Int32)), .val (.ref b98), .val (.int (1 : Int32)), .unset]) rfl (pc' := 102) rfl ?_
        refine Jvm.OwnWp.iload K at_102 rfl (pc' := 104) rfl ?_
        refine ifN K at_104 (by decide) (pc' := 107) rfl ?_
        refine Jvm.OwnWp.iload K at_107 rfl (pc' := 109) rfl ?_
        refine goto' K at_109 (pc' := 113) (by decide) (by decide) ?_
        refine Jvm.OwnWp.istore K at_113 (Ls' := #[.val (.int p0), .val (.int p1), .val (.int p2), .val (.int (0 : Int32)), .val (.int (1 : Int32)), .val (.int (2 : Int32)), .val (.int (2 : Int32)), .val (.ref b98), .val (.int (1 : Int32)), .val (.int (1 : Int32))]) rfl (pc' := 115) rfl ?_
        refine Jvm.OwnWp.aload K at_115 rfl rfl (pc' := 117) rfl ?_
        refine callVirt K (y := (⟨"com/example/sightline/sightline/checker/ByActivity", "pop", "()I"⟩ : MethodName)) (b := b98) (argsL := []) (S := []) (wd60 hw) (wd61 hw) (wd63 hw) (wd62 hw) (wd3 hw) (wd64 hw) (by decide) Q102_E (c_pop l Z a0 hw [] b98 ka ha sa 2 2 4611777928623864853 [4611686018427387904, 4611777928623864853] U102.1 U102.2 h102 n0 (Nat.le_trans Z0 P102.1) rfl wf2.1 wf2.2.1 (by decide) (by decide) wf2.2.2.2.1 (by decide) (by decide) Q102_E Q102_F_act Q102_F_heap Q102_F_slot Q102_F_count Q102_F_gain Q102_F_choices Q102_VA Q102_VH Q102_VS (Ne.symm ne_b98_ka) (Ne.symm ne_b98_ha) (Ne.symm ne_b98_sa) ne_ha_ka ne_sa_ka ne_sa_ha ge_b98 ge_ka ge_ha ge_sa) (lenOf pd6 rfl) at_117 rfl (Nat.le_of_ble_eq_true rfl) (Nat.le_of_ble_eq_true rfl) (Nat.le_of_ble_eq_true rfl) (Nat.le_of_ble_eq_true rfl) rfl (pc' := 120) rfl ?_
        rintro v103 h103 ⟨rfl, K103, Q103_E, Q103_F_act, Q103_F_heap, Q103_F_slot, Q103_F_count, Q103_F_gain, Q103_F_choices, Q103_VA, Q103_VH, Q103_VS⟩
        have X103_b98 := (Exa.keep Q102_E K103)
        have V103_ka := (Q102_VA.keep K103 (ninS (Ne.symm ne_b98_ka) (ninS (Ne.symm ne_ha_ka) (ninS (Ne.symm ne_sa_ka) (nin0)))))
        have P103 := (P102.trans K103 (allS (Or.inr lt_b98) (allS (Or.inr lt_ha) (allS (Or.inr lt_sa) (all0)))))
        show Go _ _ _ _ _ _ _ _ _ _ _ h103 4 21 (mkF m 120 #[.val (.int p0), .val (.int p1), .val (.int p2), .val (.int (0 : Int32)), .val (.int (1 : Int32)), .val (.int (2 : Int32)), .val (.int (2 : Int32)), .val (.ref b98), .val (.int (1 : Int32)), .val (.int (1 : Int32))] [(.int (Int32.ofNat (U102.1.getD 0 0)))]) _
        rw [rt2, show Int32.ofNat 1 = 1 from rfl]
        refine Jvm.OwnWp.iload K at_120 rfl (pc' := 122) rfl ?_
        refine icN K at_122 (by decide) (pc' := 125) rfl ?_
        refine Jvm.OwnWp.iconst K (1 : Int32) at_125 (by decide) (pc' := 126) rfl ?_
        refine goto' K at_126 (pc' := 130) (by decide) (by decide) ?_
        refine retB K (t := .boolean) rfl (by simp) at_130 (Nat.le_of_ble_eq_true rfl) (Nat.le_of_ble_eq_true rfl) ?_
        rfl
      · refine Jvm.OwnWp.iloadN K at_0 rfl (pc' := 1) rfl ?_
        refine Jvm.OwnWp.iconst K (1 : Int32) at_1 (by decide) (pc' := 2) rfl ?_
        refine Jvm.OwnWp.iand K at_2 (pc' := 3) rfl ?_
        rw [qa]
        refine Jvm.OwnWp.istoreN K at_3 (Ls' := #[.val (.int p0), .val (.int p1), .val (.int p2), .val (.int (0 : Int32)), .unset, .unset, .unset, .unset, .unset, .unset]) rfl (pc' := 4) rfl ?_
        refine Jvm.OwnWp.iconst K (1 : Int32) at_4 (by decide) (pc' := 5) rfl ?_
        refine Jvm.OwnWp.iloadN K at_5 rfl (pc' := 6) rfl ?_
        refine Jvm.OwnWp.isub K at_6 (pc' := 7) rfl ?_
        rw [show (1 : Int32) - 0 = 1 by decide]
        refine Jvm.OwnWp.istore K at_7 (Ls' := #[.val (.int p0), .val (.int p1), .val (.int p2), .val (.int (0 : Int32)), .val (.int (1 : Int32)), .unset, .unset, .unset, .unset, .unset]) rfl (pc' := 9) rfl ?_
        refine Jvm.OwnWp.iconst K (1 : Int32) at_9 (by decide) (pc' := 10) rfl ?_
        refine Jvm.OwnWp.iloadN K at_10 rfl (pc' := 11) rfl ?_
        refine Jvm.OwnWp.ldcI K (wd0 hw) at_11 (pc' := 13) rfl ?_
        refine Jvm.OwnWp.iand K at_13 (pc' := 14) rfl ?_
        refine Jvm.OwnWp.iconst K (3 : Int32) at_14 (by decide) (pc' := 15) rfl ?_
        refine Jvm.OwnWp.irem K at_15 (by decide) (pc' := 16) rfl ?_
        rw [qm]
        refine Jvm.OwnWp.iadd K at_16 (pc' := 17) rfl ?_
        rw [show (1 : Int32) + 1 = 2 by decide]
        refine Jvm.OwnWp.istore K at_17 (Ls' := #[.val (.int p0), .val (.int p1), .val (.int p2), .val (.int (0 : Int32)), .val (.int (1 : Int32)), .val (.int (2 : Int32)), .unset, .unset, .unset, .unset]) rfl (pc' := 19) rfl ?_
        refine Jvm.OwnWp.iloadN K at_19 rfl (pc' := 20) rfl ?_
        refine Jvm.OwnWp.ldcI K (wd0 hw) at_20 (pc' := 22) rfl ?_
        refine Jvm.OwnWp.iand K at_22 (pc' := 23) rfl ?_
        refine Jvm.OwnWp.iconst K (5 : Int32) at_23 (by decide) (pc' := 24) rfl ?_
        refine Jvm.OwnWp.irem K at_24 (by decide) (pc' := 25) rfl ?_
        rw [qk]
        refine Jvm.OwnWp.istore K at_25 (Ls' := #[.val (.int p0), .val (.int p1), .val (.int p2), .val (.int (0 : Int32)), .val (.int (1 : Int32)), .val (.int (2 : Int32)), .val (.int (3 : Int32)), .unset, .unset, .unset]) rfl (pc' := 27) rfl ?_
        refine newObj K (wd1 hw) (wd2 hw) (wd3 hw) at_27 (by decide) (by decide) (pc' := 30) rfl ?_
        intro h104 b104 g104 E104 A104 D104
        have lt_b104 : h0.size ≤ b104 := Nat.le_trans P0.1 (Nat.le_of_eq g104.symm)
        have ge_b104 : n0 ≤ b104 := Nat.le_trans Z0 lt_b104
        have P104 := (P0.ext E104)
        have F104_gain_b104 : Fld Z h104 b104 "com/example/sightline/sightline/checker/ByActivity" "gain" "D" (.double (0 : UInt64)) := D104 (Or.inl (wd11 hw)) (ty := .double) (by decide)
        have F104_choices_b104 : Fld Z h104 b104 "com/example/sightline/sightline/checker/ByActivity" "choices" "I" (.int (0 : Int32)) := D104 (Or.inr (wd13 hw)) (ty := .int) (by decide)
        have F104_activity_b104 : Fld Z h104 b104 "com/example/sightline/sightline/checker/ByActivity" "activity" "[D" .null := D104 (Or.inl (wd24 hw)) (ty := (.array .double)) (by decide)
        have F104_heap_b104 : Fld Z h104 b104 "com/example/sightline/sightline/checker/ByActivity" "heap" "[I" .null := D104 (Or.inl (wd28 hw)) (ty := (.array .int)) (by decide)
        have F104_slot_b104 : Fld Z h104 b104 "com/example/sightline/sightline/checker/ByActivity" "slot" "[I" .null := D104 (Or.inl (wd30 hw)) (ty := (.array .int)) (by decide)
        have F104_count_b104 : Fld Z h104 b104 "com/example/sightline/sightline/checker/ByActivity" "count" "I" (.int (0 : Int32)) := D104 (Or.inl (wd42 hw)) (ty := .int) (by decide)
        refine Jvm.OwnWp.dup K at_30 rfl (pc' := 31) rfl ?_
        refine Jvm.OwnWp.iconst K (2 : Int32) at_31 (by decide) (pc' := 32) rfl ?_
        refine callInit K (y := (⟨"com/example/sightline/sightline/checker/ByActivity", "<init>", "(I)V"⟩ : MethodName)) (b := b104) (argsL := [(.int (2 : Int32))]) (S := [(.ref b104)]) rfl (wd4 hw) (wd5 hw) (wd3 hw) (wd6 hw) rfl (by decide) (c_init l Z a0 hw [] b104 2 h104 n0 (Nat.le_trans Z0 P104.1) A104 ge_b104 F104_gain_b104 F104_choices_b104 F104_activity_b104 F104_heap_b104 F104_slot_b104 F104_count_b104) (lenOf pd1 rfl) at_32 rfl (Nat.le_of_ble_eq_true rfl) (Nat.le_of_ble_eq_true rfl) (Nat.le_of_ble_eq_true rfl) (Nat.le_of_ble_eq_true rfl) rfl (pc' := 35) rfl ?_
        rintro v105 h105 ⟨rfl, K105, I105_gain, I105_choices, I105_activity, I105_heap, I105_slot, I105_count⟩
        have X105_b104 := (Exa.keep A104 K105)
        have P105 := (P104.trans K105 (allS (Or.inr lt_b104) (all0)))
        show Go _ _ _ _ _ _ _ _ _ _ _ h105 1 6 (mkF m 35 #[.val (.int p0), .val (.int p1), .val (.int p2), .val (.int (0 : Int32)), .val (.int (1 : Int32)), .val (.int (2 : Int32)), .val (.int (3 : Int32)), .unset, .unset, .unset] [(.ref b104)]) _
        refine Jvm.OwnWp.astore K at_35 rfl (Ls' := #[.val (.int p0), .val (.int p1), .val (.int p2), .val (.int (0 : Int32)), .val (.int (1 : Int32)), .val (.int (2 : Int32)), .val (.int (3 : Int32)), .val (.ref b104), .unset, .unset]) rfl (pc' := 37) rfl ?_
        refine Jvm.OwnWp.aload K at_37 rfl rfl (pc' := 39) rfl ?_
        refine Jvm.OwnWp.iloadN K at_39 rfl (pc' := 40) rfl ?_
        refine Jvm.OwnWp.iload K at_40 rfl (pc' := 42) rfl ?_
        refine callStatic K (y := (⟨"com/example/sightline/sightline/checker/ByActivityDecayPinLaw", "bumps", "(Lcom/example/sightline/sightline/checker/ByActivity;II)V"⟩ : MethodName)) (argsL := [(.ref b104), (.int (0 : Int32)), (.int (2 : Int32))]) (S := []) (wd14 hw) (wd15 hw) (wd16 hw) (wd17 hw) (by decide) (c_b02 l Z a0 hw [] b104 h105 n0 (Nat.le_trans Z0 P105.1) X105_b104 I105_activity I105_heap I105_slot I105_count I105_gain I105_choices ge_b104) (lenOf pd4 rfl) at_42 rfl (Nat.le_of_ble_eq_true rfl) (Nat.le_of_ble_eq_true rfl) (Nat.le_of_ble_eq_true rfl) (Nat.le_of_ble_eq_true rfl) rfl (pc' := 45) rfl ?_
        rintro v106 h106 ⟨rfl, K106, ka, ha, sa, Hl, Sl, zk, zh, zs, ne_ha_ka, ne_sa_ka, ne_sa_ha, wf, rt, Q106_E, Q106_F_act, Q106_F_heap, Q106_F_slot, Q106_F_count, Q106_F_gain, Q106_F_choices, Q106_VA, Q106_VH, Q106_VS⟩
        have ne_b104_ka : b104 ≠ ka := Nat.ne_of_lt (Nat.lt_of_lt_of_le (Exa.lt X105_b104) zk)
        have lt_ka : h0.size ≤ ka := Nat.le_trans P105.1 zk
        have ge_ka : n0 ≤ ka := Nat.le_trans Z0 lt_ka
        have ne_b104_ha : b104 ≠ ha := Nat.ne_of_lt (Nat.lt_of_lt_of_le (Exa.lt X105_b104) zh)
        have lt_ha : h0.size ≤ ha := Nat.le_trans P105.1 zh
        have ge_ha : n0 ≤ ha := Nat.le_trans Z0 lt_ha
        have ne_b104_sa : b104 ≠ sa := Nat.ne_of_lt (Nat.lt_of_lt_of_le (Exa.lt X105_b104) zs)
        have lt_sa : h0.size ≤ sa := Nat.le_trans P105.1 zs
        have ge_sa : n0 ≤ sa := Nat.le_trans Z0 lt_sa
        have X106_b104 := (Exa.keep X105_b104 K106)
        have P106 := (P105.trans K106 (allS (Or.inr lt_b104) (all0)))
        show Go _ _ _ _ _ _ _ _ _ _ _ h106 4 21 (mkF m 45 #[.val (.int p0), .val (.int p1), .val (.int p2), .val (.int (0 : Int32)), .val (.int (1 : Int32)), .val (.int (2 : Int32)), .val (.int (3 : Int32)), .val (.ref b104), .unset, .unset] []) _
        refine Jvm.OwnWp.aload K at_45 rfl rfl (pc' := 47) rfl ?_
        refine Jvm.OwnWp.iload K at_47 rfl (pc' := 49) rfl ?_
        refine callStatic K (y := (⟨"com/example/sightline/sightline/checker/ByActivityDecayPinLaw", "decays", "(Lcom/example/sightline/sightline/checker/ByActivity;I)V"⟩ : MethodName)) (argsL := [(.ref b104), (.int (3 : Int32))]) (S := []) (wd51 hw) (wd52 hw) (wd16 hw) (wd53 hw) (by decide) (c_dec3 l Z a0 hw [] b104 ka ha sa h106 n0 (Nat.le_trans Z0 P106.1) Q106_E Q106_F_act Q106_F_heap Q106_F_slot Q106_F_count Q106_F_gain Q106_F_choices ge_b104) (lenOf pd5 rfl) at_49 rfl (Nat.le_of_ble_eq_true rfl) (Nat.le_of_ble_eq_true rfl) (Nat.le_of_ble_eq_true rfl) (Nat.le_of_ble_eq_true rfl) rfl (pc' := 52) rfl ?_
        rintro v107 h107 ⟨rfl, K107, Q107_F_act, Q107_F_heap, Q107_F_slot, Q107_F_count, Q107_F_gain, Q107_F_choices⟩
        have X107_b104 := (Exa.keep Q106_E K107)
        have V107_ka := (Q106_VA.keep K107 (ninS (Ne.symm ne_b104_ka) (nin0)))
        have V107_ha := (Q106_VH.keep K107 (ninS (Ne.symm ne_b104_ha) (nin0)))
        have V107_sa := (Q106_VS.keep K107 (ninS (Ne.symm ne_b104_sa) (nin0)))
        have P107 := (P106.trans K107 (allS (Or.inr lt_b104) (all0)))
        show Go _ _ _ _ _ _ _ _ _ _ _ h107 4 21 (mkF m 52 #[.val (.int p0), .val (.int p1), .val (.int p2), .val (.int (0 : Int32)), .val (.int (1 : Int32)), .val (.int (2 : Int32)), .val (.int (3 : Int32)), .val (.ref b104), .unset, .unset] []) _
        refine Jvm.OwnWp.aload K at_52 rfl rfl (pc' := 54) rfl ?_
        refine Jvm.OwnWp.iload K at_54 rfl (pc' := 56) rfl ?_
        refine callVirt K (y := (⟨"com/example/sightline/sightline/checker/ByActivity", "bump", "(I)V"⟩ : MethodName)) (b := b104) (argsL := [(.int (1 : Int32))]) (S := []) (wd18 hw) (wd19 hw) (wd21 hw) (wd20 hw) (wd3 hw) (wd22 hw) (by decide) X107_b104 (c_bumpN l Z a0 hw [] b104 ka ha sa 2 1 4613747432834085187 [4611686018427387904, 0] Hl Sl 1 h107 n0 (Nat.le_trans Z0 P107.1) rfl wf.1 wf.2.1 (by decide) (by decide) wf.2.2.2.1 (by decide) (by decide) (Jvm.Free.Fl.val64_no.mpr (by decide +kernel)) (by decide +kernel) (abs1 wf rt (by decide) (by decide)) X107_b104 Q107_F_act Q107_F_heap Q107_F_slot Q107_F_count Q107_F_gain Q107_F_choices V107_ka V107_ha V107_sa (Ne.symm ne_b104_ka) (Ne.symm ne_b104_ha) (Ne.symm ne_b104_sa) ne_ha_ka ne_sa_ka ne_sa_ha ge_b104 ge_ka ge_ha ge_sa) (lenOf pd1 rfl) at_56 rfl (Nat.le_of_ble_eq_true rfl) (Nat.le_of_ble_eq_true rfl) (Nat.le_of_ble_eq_true rfl) (Nat.le_of_ble_eq_true rfl) rfl (pc' := 59) rfl ?_
        rintro v108 h108 ⟨rfl, K108, Q108_E, Q108_F_act, Q108_F_heap, Q108_F_slot, Q108_F_count, Q108_F_gain, Q108_F_choices, Q108_VA, Q108_VH, Q108_VS⟩
        have X108_b104 := (Exa.keep X107_b104 K108)
        have P108 := (P107.trans K108 (allS (Or.inr lt_b104) (allS (Or.inr lt_ka) (allS (Or.inr lt_ha) (allS (Or.inr lt_sa) (all0))))))
        show Go _ _ _ _ _ _ _ _ _ _ _ h108 4 21 (mkF m 59 #[.val (.int p0), .val (.int p1), .val (.int p2), .val (.int (0 : Int32)), .val (.int (1 : Int32)), .val (.int (2 : Int32)), .val (.int (3 : Int32)), .val (.ref b104), .unset, .unset] []) _
        rw [show ([4611686018427387904, 0].set 1 (FP.dadd ([4611686018427387904, 0].getD 1 0) 4613747432834085187)) = [4611686018427387904, 4613747432834085187] from (by decide +kernel)] at Q108_VA Q108_VH Q108_VS
        have hA2 : Nums [4611686018427387904, 4613747432834085187] := nums2 (by unfold Jvm.OwnHeap.Num; decide +kernel) (by unfold Jvm.OwnHeap.Num; decide +kernel)
        have wf2 := (push_spec (by decide) hA2 wf ord1 (by decide) (by decide : 1 < 2) (abs1 wf rt (by decide) (by decide))).1
        have rt2 := push_root (A := [4611686018427387904, 4613747432834085187]) (c := 1) (S := Sl) wf.1 rt
        rw [if_pos (by decide +kernel)] at rt2
        generalize pushB [4611686018427387904, 4613747432834085187] 1 Hl Sl 1 = U108 at *
        have Q108_F_count : Fld Z h108 b104 "com/example/sightline/sightline/checker/ByActivity" "count" "I" (.int (Int32.ofNat 2)) := Q108_F_count
        refine Jvm.OwnWp.iload K at_59 rfl (pc' := 61) rfl ?_
        refine Jvm.OwnWp.iconst K (1 : Int32) at_61 (by decide) (pc' := 62) rfl ?_
        refine icY K at_62 (by decide) (pc' := 71) (by decide) (by decide) ?_
        refine Jvm.OwnWp.iload K at_71 rfl (pc' := 73) rfl ?_
        refine Jvm.OwnWp.iconst K (2 : Int32) at_73 (by decide) (pc' := 74) rfl ?_
        refine icN K at_74 (by decide) (pc' := 77) rfl ?_
        refine Jvm.OwnWp.iload K at_77 rfl (pc' := 79) rfl ?_
        refine Jvm.OwnWp.iconst K (2 : Int32) at_79 (by decide) (pc' := 80) rfl ?_
        refine icY K at_80 (by decide) (pc' := 95) (by decide) (by decide) ?_
        refine Jvm.OwnWp.iconst K (1 : Int32) at_95 (by decide) (pc' := 96) rfl ?_
        refine goto' K at_96 (pc' := 100) (by decide) (by decide) ?_
        refine Jvm.OwnWp.istore K at_100 (Ls' := #[.val (.int p0), .val (.int p1), .val (.int p2), .val (.int (0 : Int32)), .val (.int (1 : Int32)), .val (.int (2 : Int32)), .val (.int (3 : Int32)), .val (.ref b104), .val (.int (1 : Int32)), .unset]) rfl (pc' := 102) rfl ?_
        refine Jvm.OwnWp.iload K at_102 rfl (pc' := 104) rfl ?_
        refine ifN K at_104 (by decide) (pc' := 107) rfl ?_
        refine Jvm.OwnWp.iload K at_107 rfl (pc' := 109) rfl ?_
        refine goto' K at_109 (pc' := 113) (by decide) (by decide) ?_
        refine Jvm.OwnWp.istore K at_113 (Ls' := #[.val (.int p0), .val (.int p1), .val (.int p2), .val (.int (0 : Int32)), .val (.int (1 : Int32)), .val (.int (2 : Int32)), .val (.int (3 : Int32)), .val (.ref b104), .val (.int (1 : Int32)), .val (.int (1 : Int32))]) rfl (pc' := 115) rfl ?_
        refine Jvm.OwnWp.aload K at_115 rfl rfl (pc' := 117) rfl ?_
        refine callVirt K (y := (⟨"com/example/sightline/sightline/checker/ByActivity", "pop", "()I"⟩ : MethodName)) (b := b104) (argsL := []) (S := []) (wd60 hw) (wd61 hw) (wd63 hw) (wd62 hw) (wd3 hw) (wd64 hw) (by decide) Q108_E (c_pop l Z a0 hw [] b104 ka ha sa 2 2 4613747432834085187 [4611686018427387904, 4613747432834085187] U108.1 U108.2 h108 n0 (Nat.le_trans Z0 P108.1) rfl wf2.1 wf2.2.1 (by decide) (by decide) wf2.2.2.2.1 (by decide) (by decide) Q108_E Q108_F_act Q108_F_heap Q108_F_slot Q108_F_count Q108_F_gain Q108_F_choices Q108_VA Q108_VH Q108_VS (Ne.symm ne_b104_ka) (Ne.symm ne_b104_ha) (Ne.symm ne_b104_sa) ne_ha_ka ne_sa_ka ne_sa_ha ge_b104 ge_ka ge_ha ge_sa) (lenOf pd6 rfl) at_117 rfl (Nat.le_of_ble_eq_true rfl) (Nat.le_of_ble_eq_true rfl) (Nat.le_of_ble_eq_true rfl) (Nat.le_of_ble_eq_true rfl) rfl (pc' := 120) rfl ?_
        rintro v109 h109 ⟨rfl, K109, Q109_E, Q109_F_act, Q109_F_heap, Q109_F_slot, Q109_F_count, Q109_F_gain, Q109_F_choices, Q109_VA, Q109_VH, Q109_VS⟩
        have X109_b104 := (Exa.keep Q108_E K109)
        have V109_ka := (Q108_VA.keep K109 (ninS (Ne.symm ne_b104_ka) (ninS (Ne.symm ne_ha_ka) (ninS (Ne.symm ne_sa_ka) (nin0)))))
        have P109 := (P108.trans K109 (allS (Or.inr lt_b104) (allS (Or.inr lt_ha) (allS (Or.inr lt_sa) (all0)))))
        show Go _ _ _ _ _ _ _ _ _ _ _ h109 4 21 (mkF m 120 #[.val (.int p0), .val (.int p1), .val (.int p2), .val (.int (0 : Int32)), .val (.int (1 : Int32)), .val (.int (2 : Int32)), .val (.int (3 : Int32)), .val (.ref b104), .val (.int (1 : Int32)), .val (.int (1 : Int32))] [(.int (Int32.ofNat (U108.1.getD 0 0)))]) _
        rw [rt2, show Int32.ofNat 1 = 1 from rfl]
        refine Jvm.OwnWp.iload K at_120 rfl (pc' := 122) rfl ?_
        refine icN K at_122 (by decide) (pc' := 125) rfl ?_
        refine Jvm.OwnWp.iconst K (1 : Int32) at_125 (by decide) (pc' := 126) rfl ?_
        refine goto' K at_126 (pc' := 130) (by decide) (by decide) ?_
        refine retB K (t := .boolean) rfl (by simp) at_130 (Nat.le_of_ble_eq_true rfl) (Nat.le_of_ble_eq_true rfl) ?_
        rfl
      · refine Jvm.OwnWp.iloadN K at_0 rfl (pc' := 1) rfl ?_
        refine Jvm.OwnWp.iconst K (1 : Int32) at_1 (by decide) (pc' := 2) rfl ?_
        refine Jvm.OwnWp.iand K at_2 (pc' := 3) rfl ?_
        rw [qa]
        refine Jvm.OwnWp.istoreN K at_3 (Ls' := #[.val (.int p0), .val (.int p1), .val (.int p2), .val (.int (0 : Int32)), .unset, .unset, .unset, .unset, .unset, .unset]) rfl (pc' := 4) rfl ?_
        refine Jvm.OwnWp.iconst K (1 : Int32) at_4 (by decide) (pc' := 5) rfl ?_
        refine Jvm.OwnWp.iloadN K at_5 rfl (pc' := 6) rfl ?_
        refine Jvm.OwnWp.isub K at_6 (pc' := 7) rfl ?_
        rw [show (1 : Int32) - 0 = 1 by decide]
        refine Jvm.OwnWp.istore K at_7 (Ls' := #[.val (.int p0), .val (.int p1), .val (.int p2), .val (.int (0 : Int32)), .val (.int (1 : Int32)), .unset, .unset, .unset, .unset, .unset]) rfl (pc' := 9) rfl ?_
        refine Jvm.OwnWp.iconst K (1 : Int32) at_9 (by decide) (pc' := 10) rfl ?_
        refine Jvm.OwnWp.iloadN K at_10 rfl (pc' := 11) rfl ?_
        refine Jvm.OwnWp.ldcI K (wd0 hw) at_11 (pc' := 13) rfl ?_
        refine Jvm.OwnWp.iand K at_13 (pc' := 14) rfl ?_
        refine Jvm.OwnWp.iconst K (3 : Int32) at_14 (by decide) (pc' := 15) rfl ?_
        refine Jvm.OwnWp.irem K at_15 (by decide) (pc' := 16) rfl ?_
        rw [qm]
        refine Jvm.OwnWp.iadd K at_16 (pc' := 17) rfl ?_
        rw [show (1 : Int32) + 1 = 2 by decide]
        refine Jvm.OwnWp.istore K at_17 (Ls' := #[.val (.int p0), .val (.int p1), .val (.int p2), .val (.int (0 : Int32)), .val (.int (1 : Int32)), .val (.int (2 : Int32)), .unset, .unset, .unset, .unset]) rfl (pc' := 19) rfl ?_
        refine Jvm.OwnWp.iloadN K at_19 rfl (pc' := 20) rfl ?_
        refine Jvm.OwnWp.ldcI K (wd0 hw) at_20 (pc' := 22) rfl ?_
        refine Jvm.OwnWp.iand K at_22 (pc' := 23) rfl ?_
        refine Jvm.OwnWp.iconst K (5 : Int32) at_23 (by decide) (pc' := 24) rfl ?_
        refine Jvm.OwnWp.irem K at_24 (by decide) (pc' := 25) rfl ?_
        rw [qk]
        refine Jvm.OwnWp.istore K at_25 (Ls' := #[.val (.int p0), .val (.int p1), .val (.int p2), .val (.int (0 : Int32)), .val (.int (1 : Int32)), .val (.int (2 : Int32)), .val (.int (4 : Int32)), .unset, .unset, .unset]) rfl (pc' := 27) rfl ?_
        refine newObj K (wd1 hw) (wd2 hw) (wd3 hw) at_27 (by decide) (by decide) (pc' := 30) rfl ?_
        intro h110 b110 g110 E110 A110 D110
        have lt_b110 : h0.size ≤ b110 := Nat.le_trans P0.1 (Nat.le_of_eq g110.symm)
        have ge_b110 : n0 ≤ b110 := Nat.le_trans Z0 lt_b110
        have P110 := (P0.ext E110)
        have F110_gain_b110 : Fld Z h110 b110 "com/example/sightline/sightline/checker/ByActivity" "gain" "D" (.double (0 : UInt64)) := D110 (Or.inl (wd11 hw)) (ty := .double) (by decide)
        have F110_choices_b110 : Fld Z h110 b110 "com/example/sightline/sightline/checker/ByActivity" "choices" "I" (.int (0 : Int32)) := D110 (Or.inr (wd13 hw)) (ty := .int) (by decide)
        have F110_activity_b110 : Fld Z h110 b110 "com/example/sightline/sightline/checker/ByActivity" "activity" "[D" .null := D110 (Or.inl (wd24 hw)) (ty := (.array .double)) (by decide)
        have F110_heap_b110 : Fld Z h110 b110 "com/example/sightline/sightline/checker/ByActivity" "heap" "[I" .null := D110 (Or.inl (wd28 hw)) (ty := (.array .int)) (by decide)
        have F110_slot_b110 : Fld Z h110 b110 "com/example/sightline/sightline/checker/ByActivity" "slot" "[I" .null := D110 (Or.inl (wd30 hw)) (ty := (.array .int)) (by decide)
        have F110_count_b110 : Fld Z h110 b110 "com/example/sightline/sightline/checker/ByActivity" "count" "I" (.int (0 : Int32)) := D110 (Or.inl (wd42 hw)) (ty := .int) (by decide)
        refine Jvm.OwnWp.dup K at_30 rfl (pc' := 31) rfl ?_
        refine Jvm.OwnWp.iconst K (2 : Int32) at_31 (by decide) (pc' := 32) rfl ?_
        refine callInit K (y := (⟨"com/example/sightline/sightline/checker/ByActivity", "<init>", "(I)V"⟩ : MethodName)) (b := b110) (argsL := [(.int (2 : Int32))]) (S := [(.ref b110)]) rfl (wd4 hw) (wd5 hw) (wd3 hw) (wd6 hw) rfl (by decide) (c_init l Z a0 hw [] b110 2 h110 n0 (Nat.le_trans Z0 P110.1) A110 ge_b110 F110_gain_b110 F110_choices_b110 F110_activity_b110 F110_heap_b110 F110_slot_b110 F110_count_b110) (lenOf pd1 rfl) at_32 rfl (Nat.le_of_ble_eq_true rfl) (Nat.le_of_ble_eq_true rfl) (Nat.le_of_ble_eq_true rfl) (Nat.le_of_ble_eq_true rfl) rfl (pc' := 35) rfl ?_
        rintro v111 h111 ⟨rfl, K111, I111_gain, I111_choices, I111_activity, I111_heap, I111_slot, I111_count⟩
        have X111_b110 := (Exa.keep A110 K111)
        have P111 := (P110.trans K111 (allS (Or.inr lt_b110) (all0)))
        show Go _ _ _ _ _ _ _ _ _ _ _ h111 1 6 (mkF m 35 #[.val (.int p0), .val (.int p1), .val (.int p2), .val (.int (0 : Int32)), .val (.int (1 : Int32)), .val (.int (2 : Int32)), .val (.int (4 : Int32)), .unset, .unset, .unset] [(.ref b110)]) _
        refine Jvm.OwnWp.astore K at_35 rfl (Ls' := #[.val (.int p0), .val (.int p1), .val (.int p2), .val (.int (0 : Int32)), .val (.int (1 : Int32)), .val (.int (2 : Int32)), .val (.int (4 : Int32)), .val (.ref b110), .unset, .unset]) rfl (pc' := 37) rfl ?_
        refine Jvm.OwnWp.aload K at_37 rfl rfl (pc' := 39) rfl ?_
        refine Jvm.OwnWp.iloadN K at_39 rfl (pc' := 40) rfl ?_
        refine Jvm.OwnWp.iload K at_40 rfl (pc' := 42) rfl ?_
        refine callStatic K (y := (⟨"com/example/sightline/sightline/checker/ByActivityDecayPinLaw", "bumps", "(Lcom/example/sightline/sightline/checker/ByActivity;II)V"⟩ : MethodName)) (argsL := [(.ref b110), (.int (0 : Int32)), (.int (2 : Int32))]) (S := []) (wd14 hw) (wd15 hw) (wd16 hw) (wd17 hw) (by decide) (c_b02 l Z a0 hw [] b110 h111 n0 (Nat.le_trans Z0 P111.1) X111_b110 I111_activity I111_heap I111_slot I111_count I111_gain I111_choices ge_b110) (lenOf pd4 rfl) at_42 rfl (Nat.le_of_ble_eq_true rfl) (Nat.le_of_ble_eq_true rfl) (Nat.le_of_ble_eq_true rfl) (Nat.le_of_ble_eq_true rfl) rfl (pc' := 45) rfl ?_
        rintro v112 h112 ⟨rfl, K112, ka, ha, sa, Hl, Sl, zk, zh, zs, ne_ha_ka, ne_sa_ka, ne_sa_ha, wf, rt, Q112_E, Q112_F_act, Q112_F_heap, Q112_F_slot, Q112_F_count, Q112_F_gain, Q112_F_choices, Q112_VA, Q112_VH, Q112_VS⟩
        have ne_b110_ka : b110 ≠ ka := Nat.ne_of_lt (Nat.lt_of_lt_of_le (Exa.lt X111_b110) zk)
        have lt_ka : h0.size ≤ ka := Nat.le_trans P111.1 zk
        have ge_ka : n0 ≤ ka := Nat.le_trans Z0 lt_ka
        have ne_b110_ha : b110 ≠ ha := Nat.ne_of_lt (Nat.lt_of_lt_of_le (Exa.lt X111_b110) zh)
        have lt_ha : h0.size ≤ ha := Nat.le_trans P111.1 zh
        have ge_ha : n0 ≤ ha := Nat.le_trans Z0 lt_ha
        have ne_b110_sa : b110 ≠ sa := Nat.ne_of_lt (Nat.lt_of_lt_of_le (Exa.lt X111_b110) zs)
        have lt_sa : h0.size ≤ sa := Nat.le_trans P111.1 zs
        have ge_sa : n0 ≤ sa := Nat.le_trans Z0 lt_sa
        have X112_b110 := (Exa.keep X111_b110 K112)
        have P112 := (P111.trans K112 (allS (Or.inr lt_b110) (all0)))
        show Go _ _ _ _ _ _ _ _ _ _ _ h112 4 21 (mkF m 45 #[.val (.int p0), .val (.int p1), .val (.int p2), .val (.int (0 : Int32)), .val (.int (1 : Int32)), .val (.int (2 : Int32)), .val (.int (4 : Int32)), .val (.ref b110), .unset, .unset] []) _
        refine Jvm.OwnWp.aload K at_45 rfl rfl (pc' := 47) rfl ?_
        refine Jvm.OwnWp.iload K at_47 rfl (pc' := 49) rfl ?_
        refine callStatic K (y := (⟨"com/example/sightline/sightline/checker/ByActivityDecayPinLaw", "decays", "(Lcom/example/sightline/sightline/checker/ByActivity;I)V"⟩ : MethodName)) (argsL := [(.ref b110), (.int (4 : Int32))]) (S := []) (wd51 hw) (wd52 hw) (wd16 hw) (wd53 hw) (by decide) (c_dec4 l Z a0 hw [] b110 ka ha sa h112 n0 (Nat.le_trans Z0 P112.1) Q112_E Q112_F_act Q112_F_heap Q112_F_slot Q112_F_count Q112_F_gain Q112_F_choices ge_b110) (lenOf pd5 rfl) at_49 rfl (Nat.le_of_ble_eq_true rfl) (Nat.le_of_ble_eq_true rfl) (Nat.le_of_ble_eq_true rfl) (Nat.le_of_ble_eq_true rfl) rfl (pc' := 52) rfl ?_
        rintro v113 h113 ⟨rfl, K113, Q113_F_act, Q113_F_heap, Q113_F_slot, Q113_F_count, Q113_F_gain, Q113_F_choices⟩
        have X113_b110 := (Exa.keep Q112_E K113)
        have V113_ka := (Q112_VA.keep K113 (ninS (Ne.symm ne_b110_ka) (nin0)))
        have V113_ha := (Q112_VH.keep K113 (ninS (Ne.symm ne_b110_ha) (nin0)))
        have V113_sa := (Q112_VS.keep K113 (ninS (Ne.symm ne_b110_sa) (nin0)))
        have P113 := (P112.trans K113 (allS (Or.inr lt_b110) (all0)))
        show Go _ _ _ _ _ _ _ _ _ _ _ h113 4 21 (mkF m 52 #[.val (.int p0), .val (.int p1), .val (.int p2), .val (.int (0 : Int32)), .val (.int (1 : Int32)), .val (.int (2 : Int32)), .val (.int (4 : Int32)), .val (.ref b110), .unset, .unset] []) _
        refine Jvm.OwnWp.aload K at_52 rfl rfl (pc' := 54) rfl ?_
        refine Jvm.OwnWp.iload K at_54 rfl (pc' := 56) rfl ?_
        refine callVirt K (y := (⟨"com/example/sightline/sightline/checker/ByActivity", "bump", "(I)V"⟩ : MethodName)) (b := b110) (argsL := [(.int (1 : Int32))]) (S := []) (wd18 hw) (wd19 hw) (wd21 hw) (wd20 hw) (wd3 hw) (wd22 hw) (by decide) X113_b110 (c_bumpN l Z a0 hw [] b110 ka ha sa 2 1 4616375314166007746 [4611686018427387904, 0] Hl Sl 1 h113 n0 (Nat.le_trans Z0 P113.1) rfl wf.1 wf.2.1 (by decide) (by decide) wf.2.2.2.1 (by decide) (by decide) (Jvm.Free.Fl.val64_no.mpr (by decide +kernel)) (by decide +kernel) (abs1 wf rt (by decide) (by decide)) X113_b110 Q113_F_act Q113_F_heap Q113_F_slot Q113_F_count Q113_F_gain Q113_F_choices V113_ka V113_ha V113_sa (Ne.symm ne_b110_ka) (Ne.symm ne_b110_ha) (Ne.symm ne_b110_sa) ne_ha_ka ne_sa_ka ne_sa_ha ge_b110 ge_ka ge_ha ge_sa) (lenOf pd1 rfl) at_56 rfl (Nat.le_of_ble_eq_true rfl) (Nat.le_of_ble_eq_true rfl) (Nat.le_of_ble_eq_true rfl) (Nat.le_of_ble_eq_true rfl) rfl (pc' := 59) rfl ?_
        rintro v114 h114 ⟨rfl, K114, Q114_E, Q114_F_act, Q114_F_heap, Q114_F_slot, Q114_F_count, Q114_F_gain, Q114_F_choices, Q114_VA, Q114_VH, Q114_VS⟩
        have X114_b110 := (Exa.keep X113_b110 K114)
        have P114 := (P113.trans K114 (allS (Or.inr lt_b110) (allS (Or.inr lt_ka) (allS (Or.inr lt_ha) (allS (Or.inr lt_sa) (all0))))))
        show Go _ _ _ _ _ _ _ _ _ _ _ h114 4 21 (mkF m 59 #[.val (.int p0), .val (.int p1), .val (.int p2), .val (.int (0 : Int32)), .val (.int (1 : Int32)), .val (.int (2 : Int32)), .val (.int (4 : Int32)), .val (.ref b110), .unset, .unset] []) _
        rw [show ([4611686018427387904, 0].set 1 (FP.dadd ([4611686018427387904, 0].getD 1 0) 4616375314166007746)) = [4611686018427387904, 4616375314166007746] from (by decide +kernel)] at Q114_VA Q114_VH Q114_VS
        have hA2 : Nums [4611686018427387904, 4616375314166007746] := nums2 (by unfold Jvm.OwnHeap.Num; decide +kernel) (by unfold Jvm.OwnHeap.Num; decide +kernel)
        have wf2 := (push_spec (by decide) hA2 wf ord1 (by decide) (by decide : 1 < 2) (abs1 wf rt (by decide) (by decide))).1
        have rt2 := push_root (A := [4611686018427387904, 4616375314166007746]) (c := 1) (S := Sl) wf.1 rt
        rw [if_pos (by decide +kernel)] at rt2
        generalize pushB [4611686018427387904, 4616375314166007746] 1 Hl Sl 1 = U114 at *
        have Q114_F_count : Fld Z h114 b110 "com/example/sightline/sightline/checker/ByActivity" "count" "I" (.int (Int32.ofNat 2)) := Q114_F_count
        refine Jvm.OwnWp.iload K at_59 rfl (pc' := 61) rfl ?_
        refine Jvm.OwnWp.iconst K (1 : Int32) at_61 (by decide) (pc' := 62) rfl ?_
        refine icY K at_62 (by decide) (pc' := 71) (by decide) (by decide) ?_
        refine Jvm.OwnWp.iload K at_71 rfl (pc' := 73) rfl ?_
        refine Jvm.OwnWp.iconst K (2 : Int32) at_73 (by decide) (pc' := 74) rfl ?_
        refine icN K at_74 (by decide) (pc' := 77) rfl ?_
        refine Jvm.OwnWp.iload K at_77 rfl (pc' := 79) rfl ?_
        refine Jvm.OwnWp.iconst K (2 : Int32) at_79 (by decide) (pc' := 80) rfl ?_
        refine icY K at_80 (by decide) (pc' := 95) (by decide) (by decide) ?_
        refine Jvm.OwnWp.iconst K (1 : Int32) at_95 (by decide) (pc' := 96) rfl ?_
        refine goto' K at_96 (pc' := 100) (by decide) (by decide) ?_
        refine Jvm.OwnWp.istore K at_100 (Ls' := #[.val (.int p0), .val (.int p1), .val (.int p2), .val (.int (0 : Int32)), .val (.int (1 : Int32)), .val (.int (2 : Int32)), .val (.int (4 : Int32)), .val (.ref b110), .val (.int (1 : Int32)), .unset]) rfl (pc' := 102) rfl ?_
        refine Jvm.OwnWp.iload K at_102 rfl (pc' := 104) rfl ?_
        refine ifN K at_104 (by decide) (pc' := 107) rfl ?_
        refine Jvm.OwnWp.iload K at_107 rfl (pc' := 109) rfl ?_
        refine goto' K at_109 (pc' := 113) (by decide) (by decide) ?_
        refine Jvm.OwnWp.istore K at_113 (Ls' := #[.val (.int p0), .val (.int p1), .val (.int p2), .val (.int (0 : Int32)), .val (.int (1 : Int32)), .val (.int (2 : Int32)), .val (.int (4 : Int32)), .val (.ref b110), .val (.int (1 : Int32)), .val (.int (1 : Int32))]) rfl (pc' := 115) rfl ?_
        refine Jvm.OwnWp.aload K at_115 rfl rfl (pc' := 117) rfl ?_
        refine callVirt K (y := (⟨"com/example/sightline/sightline/checker/ByActivity", "pop", "()I"⟩ : MethodName)) (b := b110) (argsL := []) (S := []) (wd60 hw) (wd61 hw) (wd63 hw) (wd62 hw) (wd3 hw) (wd64 hw) (by decide) Q114_E (c_pop l Z a0 hw [] b110 ka ha sa 2 2 4616375314166007746 [4611686018427387904, 4616375314166007746] U114.1 U114.2 h114 n0 (Nat.le_trans Z0 P114.1) rfl wf2.1 wf2.2.1 (by decide) (by decide) wf2.2.2.2.1 (by decide) (by decide) Q114_E Q114_F_act Q114_F_heap Q114_F_slot Q114_F_count Q114_F_gain Q114_F_choices Q114_VA Q114_VH Q114_VS (Ne.symm ne_b110_ka) (Ne.symm ne_b110_ha) (Ne.symm ne_b110_sa) ne_ha_ka ne_sa_ka ne_sa_ha ge_b110 ge_ka ge_ha ge_sa) (lenOf pd6 rfl) at_117 rfl (Nat.le_of_ble_eq_true rfl) (Nat.le_of_ble_eq_true rfl) (Nat.le_of_ble_eq_true rfl) (Nat.le_of_ble_eq_true rfl) rfl (pc' := 120) rfl ?_
        rintro v115 h115 ⟨rfl, K115, Q115_E, Q115_F_act, Q115_F_heap, Q115_F_slot, Q115_F_count, Q115_F_gain, Q115_F_choices, Q115_VA, Q115_VH, Q115_VS⟩
        have X115_b110 := (Exa.keep Q114_E K115)
        have V115_ka := (Q114_VA.keep K115 (ninS (Ne.symm ne_b110_ka) (ninS (Ne.symm ne_ha_ka) (ninS (Ne.symm ne_sa_ka) (nin0)))))
        have P115 := (P114.trans K115 (allS (Or.inr lt_b110) (allS (Or.inr lt_ha) (allS (Or.inr lt_sa) (all0)))))
        show Go _ _ _ _ _ _ _ _ _ _ _ h115 4 21 (mkF m 120 #[.val (.int p0), .val (.int p1), .val (.int p2), .val (.int (0 : Int32)), .val (.int (1 : Int32)), .val (.int (2 : Int32)), .val (.int (4 : Int32)), .val (.ref b110), .val (.int (1 : Int32)), .val (.int (1 : Int32))] [(.int (Int32.ofNat (U114.1.getD 0 0)))]) _
        rw [rt2, show Int32.ofNat 1 = 1 from rfl]
        refine Jvm.OwnWp.iload K at_120 rfl (pc' := 122) rfl ?_
        refine icN K at_122 (by decide) (pc' := 125) rfl ?_
        refine Jvm.OwnWp.iconst K (1 : Int32) at_125 (by decide) (pc' := 126) rfl ?_
        refine goto' K at_126 (pc' := 130) (by decide) (by decide) ?_
        refine retB K (t := .boolean) rfl (by simp) at_130 (Nat.le_of_ble_eq_true rfl) (Nat.le_of_ble_eq_true rfl) ?_
        rfl
    · rcases own_k p2 with qk | qk | qk | qk | qk
      · refine Jvm.OwnWp.iloadN K at_0 rfl (pc' := 1) rfl ?_
        refine Jvm.OwnWp.iconst K (1 : Int32) at_1 (by decide) (pc' := 2) rfl ?_
        refine Jvm.OwnWp.iand K at_2 (pc' := 3) rfl ?_
        rw [qa]
        refine Jvm.OwnWp.istoreN K at_3 (Ls' := #[.val (.int p0), .val (.int p1), .val (.int p2), .val (.int (0 : Int32)), .unset, .unset, .unset, .unset, .unset, .unset]) rfl (pc' := 4) rfl ?_
        refine Jvm.OwnWp.iconst K (1 : Int32) at_4 (by decide) (pc' := 5) rfl ?_
        refine Jvm.OwnWp.iloadN K at_5 rfl (pc' := 6) rfl ?_
        refine Jvm.OwnWp.isub K at_6 (pc' := 7) rfl ?_
        rw [show (1 : Int32) - 0 = 1 by decide]
        refine Jvm.OwnWp.istore K at_7 (Ls' := #[.val (.int p0), .val (.int p1), .val (.int p2), .val (.int (0 : Int32)), .val (.int (1 : Int32)), .unset, .unset, .unset, .unset, .unset]) rfl (pc' := 9) rfl ?_
        refine Jvm.OwnWp.iconst K (1 : Int32) at_9 (by decide) (pc' := 10) rfl ?_
        refine Jvm.OwnWp.iloadN K at_10 rfl (pc' := 11) rfl ?_
        refine Jvm.OwnWp.ldcI K (wd0 hw) at_11 (pc' := 13) rfl ?_
        refine Jvm.OwnWp.iand K at_13 (pc' := 14) rfl ?_
        refine Jvm.OwnWp.iconst K (3 : Int32) at_14 (by decide) (pc' := 15) rfl ?_
        refine Jvm.OwnWp.irem K at_15 (by decide) (pc' := 16) rfl ?_
        rw [qm]
        refine Jvm.OwnWp.iadd K at_16 (pc' := 17) rfl ?_
        rw [show (1 : Int32) + 2 = 3 by decide]
        refine Jvm.OwnWp.istore K at_17 (Ls' := #[.val (.int p0), .val (.int p1), .val (.int p2), .val (.int (0 : Int32)), .val (.int (1 : Int32)), .val (.int (3 : Int32)), .unset, .unset, .unset, .unset]) rfl (pc' := 19) rfl ?_
        refine Jvm.OwnWp.iloadN K at_19 rfl (pc' := 20) rfl ?_
        refine Jvm.OwnWp.ldcI K (wd0 hw) at_20 (pc' := 22) rfl ?_
        refine Jvm.OwnWp.iand K at_22 (pc' := 23) rfl ?_
        refine Jvm.OwnWp.iconst K (5 : Int32) at_23 (by decide) (pc' := 24) rfl ?_
        refine Jvm.OwnWp.irem K at_24 (by decide) (pc' := 25) rfl ?_
        rw [qk]
        refine Jvm.OwnWp.istore K at_25 (Ls' := #[.val (.int p0), .val (.int p1), .val (.int p2), .val (.int (0 : Int32)), .val (.int (1 : Int32)), .val (.int (3 : Int32)), .val (.int (0 : Int32)), .unset, .unset, .unset]) rfl (pc' := 27) rfl ?_
        refine newObj K (wd1 hw) (wd2 hw) (wd3 hw) at_27 (by decide) (by decide) (pc' := 30) rfl ?_
        intro h116 b116 g116 E116 A116 D116
        have lt_b116 : h0.size ≤ b116 := Nat.le_trans P0.1 (Nat.le_of_eq g116.symm)
        have ge_b116 : n0 ≤ b116 := Nat.le_trans Z0 lt_b116
        have P116 := (P0.ext E116)
        have F116_gain_b116 : Fld Z h116 b116 "com/example/sightline/sightline/checker/ByActivity" "gain" "D" (.double (0 : UInt64)) := D116 (Or.inl (wd11 hw)) (ty := .double) (by decide)
        have F116_choices_b116 : Fld Z h116 b116 "com/example/sightline/sightline/checker/ByActivity" "choices" "I" (.int (0 : Int32)) := D116 (Or.inr (wd13 hw)) (ty := .int) (by decide)
        have F116_activity_b116 : Fld Z h116 b116 "com/example/sightline/sightline/checker/ByActivity" "activity" "[D" .null := D116 (Or.inl (wd24 hw)) (ty := (.array .double)) (by decide)
        have F116_heap_b116 : Fld Z h116 b116 "com/example/sightline/sightline/checker/ByActivity" "heap" "[I" .null := D116 (Or.inl (wd28 hw)) (ty := (.array .int)) (by decide)
        have F116_slot_b116 : Fld Z h116 b116 "com/example/sightline/sightline/checker/ByActivity" "slot" "[I" .null := D116 (Or.inl (wd30 hw)) (ty := (.array .int)) (by decide)
        have F116_count_b116 : Fld Z h116 b116 "com/example/sightline/sightline/checker/ByActivity" "count" "I" (.int (0 : Int32)) := D116 (Or.inl (wd42 hw)) (ty := .int) (by decide)
        refine Jvm.OwnWp.dup K at_30 rfl (pc' := 31) rfl ?_
        refine Jvm.OwnWp.iconst K (2 : Int32) at_31 (by decide) (pc' := 32) rfl ?_
        refine callInit K (y := (⟨"com/example/sightline/sightline/checker/ByActivity", "<init>", "(I)V"⟩ : MethodName)) (b := b116) (argsL := [(.int (2 : Int32))]) (S := [(.ref b116)]) rfl (wd4 hw) (wd5 hw) (wd3 hw) (wd6 hw) rfl (by decide) (c_init l Z a0 hw [] b116 2 h116 n0 (Nat.le_trans Z0 P116.1) A116 ge_b116 F116_gain_b116 F116_choices_b116 F116_activity_b116 F116_heap_b116 F116_slot_b116 F116_count_b116) (lenOf pd1 rfl) at_32 rfl (Nat.le_of_ble_eq_true rfl) (Nat.le_of_ble_eq_true rfl) (Nat.le_of_ble_eq_true rfl) (Nat.le_of_ble_eq_true rfl) rfl (pc' := 35) rfl ?_
        rintro v117 h117 ⟨rfl, K117, I117_gain, I117_choices, I117_activity, I117_heap, I117_slot, I117_count⟩
        have X117_b116 := (Exa.keep A116 K117)
        have P117 := (P116.trans K117 (allS (Or.inr lt_b116) (all0)))
        show Go _ _ _ _ _ _ _ _ _ _ _ h117 1 6 (mkF m 35 #[.val (.int p0), .val (.int p1), .val (.int p2), .val (.int (0 : Int32)), .val (.int (1 : Int32)), .val (.int (3 : Int32)), .val (.int (0 : Int32)), .unset, .unset, .unset] [(.ref b116)]) _
        refine Jvm.OwnWp.astore K at_35 rfl (Ls' := #[.val (.int p0), .val (.int p1), .val (.int p2), .val (.int (0 : Int32)), .val (.int (1 : Int32)), .val (.int (3 : Int32)), .val (.int (0 : Int32)), .val (.ref b116), .unset, .unset]) rfl (pc' := 37) rfl ?_
        refine Jvm.OwnWp.aload K at_37 rfl rfl (pc' := 39) rfl ?_
        refine Jvm.OwnWp.iloadN K at_39 rfl (pc' := 40) rfl ?_
        refine Jvm.OwnWp.iload K at_40 rfl (pc' := 42) rfl ?_
        refine callStatic K (y := (⟨"com/example/sightline/sightline/checker/ByActivityDecayPinLaw", "bumps", "(Lcom/example/sightline/sightline/checker/ByActivity;II)V"⟩ : MethodName)) (argsL := [(.ref b116), (.int (0 : Int32)), (.int (3 : Int32))]) (S := []) (wd14 hw) (wd15 hw) (wd16 hw) (wd17 hw) (by decide) (c_b03 l Z a0 hw [] b116 h117 n0 (Nat.le_trans Z0 P117.1) X117_b116 I117_activity I117_heap I117_slot I117_count I117_gain I117_choices ge_b116) (lenOf pd4 rfl) at_42 rfl (Nat.le_of_ble_eq_true rfl) (Nat.le_of_ble_eq_true rfl) (Nat.le_of_ble_eq_true rfl) (Nat.le_of_ble_eq_true rfl) rfl (pc' := 45) rfl ?_
        rintro v118 h118 ⟨rfl, K118, ka, ha, sa, Hl, Sl, zk, zh, zs, ne_ha_ka, ne_sa_ka, ne_sa_ha, wf, rt, Q118_E, Q118_F_act, Q118_F_heap, Q118_F_slot, Q118_F_count, Q118_F_gain, Q118_F_choices, Q118_VA, Q118_VH, Q118_VS⟩
        have ne_b116_ka : b116 ≠ ka := Nat.ne_of_lt (Nat.lt_of_lt_of_le (Exa.lt X117_b116) zk)
        have lt_ka : h0.size ≤ ka := Nat.le_trans P117.1 zk
        have ge_ka : n0 ≤ ka := Nat.le_trans Z0 lt_ka
        have ne_b116_ha : b116 ≠ ha := Nat.ne_of_lt (Nat.lt_of_lt_of_le (Exa.lt X117_b116) zh)
        have lt_ha : h0.size ≤ ha := Nat.le_trans P117.1 zh
        have ge_ha : n0 ≤ ha := Nat.le_trans Z0 lt_ha
        have ne_b116_sa : b116 ≠ sa := Nat.ne_of_lt (Nat.lt_of_lt_of_le (Exa.lt X117_b116) zs)
        have lt_sa : h0.size ≤ sa := Nat.le_trans P117.1 zs
        have ge_sa : n0 ≤ sa := Nat.le_trans Z0 lt_sa
        have X118_b116 := (Exa.keep X117_b116 K118)
        have P118 := (P117.trans K118 (allS (Or.inr lt_b116) (all0)))
        show Go _ _ _ _ _ _ _ _ _ _ _ h118 4 21 (mkF m 45 #[.val (.int p0), .val (.int p1), .val (.int p2), .val (.int (0 : Int32)), .val (.int (1 : Int32)), .val (.int (3 : Int32)), .val (.int (0 : Int32)), .val (.ref b116), .unset, .unset] []) _
        refine Jvm.OwnWp.aload K at_45 rfl rfl (pc' := 47) rfl ?_
        refine Jvm.OwnWp.iload K at_47 rfl (pc' := 49) rfl ?_
        refine callStatic K (y := (⟨"com/example/sightline/sightline/checker/ByActivityDecayPinLaw", "decays", "(Lcom/example/sightline/sightline/checker/ByActivity;I)V"⟩ : MethodName)) (argsL := [(.ref b116), (.int (0 : Int32))]) (S := []) (wd51 hw) (wd52 hw) (wd16 hw) (wd53 hw) (by decide) (c_dec0 l Z a0 hw [] b116 ka ha sa h118 n0 (Nat.le_trans Z0 P118.1) Q118_E Q118_F_act Q118_F_heap Q118_F_slot Q118_F_count Q118_F_gain Q118_F_choices ge_b116) (lenOf pd5 rfl) at_49 rfl (Nat.le_of_ble_eq_true rfl) (Nat.le_of_ble_eq_true rfl) (Nat.le_of_ble_eq_true rfl) (Nat.le_of_ble_eq_true rfl) rfl (pc' := 52) rfl ?_
        rintro v119 h119 ⟨rfl, K119, Q119_F_act, Q119_F_heap, Q119_F_slot, Q119_F_count, Q119_F_gain, Q119_F_choices⟩
        have X119_b116 := (Exa.keep Q118_E K119)
        have V119_ka := (Q118_VA.keep K119 (ninS (Ne.symm ne_b116_ka) (nin0)))
        have V119_ha := (Q118_VH.keep K119 (ninS (Ne.symm ne_b116_ha) (nin0)))
        have V119_sa := (Q118_VS.keep K119 (ninS (Ne.symm ne_b116_sa) (nin0)))
        have P119 := (P118.trans K119 (allS (Or.inr lt_b116) (all0)))
        show Go _ _ _ _ _ _ _ _ _ _ _ h119 4 21 (mkF m 52 #[.val (.int p0), .val (.int p1), .val (.int p2), .val (.int (0 : Int32)), .val (.int (1 : Int32)), .val (.int (3 : Int32)), .val (.int (0 : Int32)), .val (.ref b116), .unset, .unset] []) _
        refine Jvm.OwnWp.aload K at_52 rfl rfl (pc' := 54) rfl ?_
        refine Jvm.OwnWp.iload K at_54 rfl (pc' := 56) rfl ?_
        refine callVirt K (y := (⟨"com/example/sightline/sightline/checker/ByActivity", "bump", "(I)V"⟩ : MethodName)) (b := b116) (argsL := [(.int (1 : Int32))]) (S := []) (wd18 hw) (wd19 hw) (wd21 hw) (wd20 hw) (wd3 hw) (wd22 hw) (by decide) X119_b116 (c_bumpN l Z a0 hw [] b116 ka ha sa 2 1 4607182418800017408 [4613937818241073152, 0] Hl Sl 1 h119 n0 (Nat.le_trans Z0 P119.1) rfl wf.1 wf.2.1 (by decide) (by decide) wf.2.2.2.1 (by decide) (by decide) (Jvm.Free.Fl.val64_no.mpr (by decide +kernel)) (by decide +kernel) (abs1 wf rt (by decide) (by decide)) X119_b116 Q119_F_act Q119_F_heap Q119_F_slot Q119_F_count Q119_F_gain Q119_F_choices V119_ka V119_ha V119_sa (Ne.symm ne_b116_ka) (Ne.symm ne_b116_ha) (Ne.symm ne_b116_sa) ne_ha_ka ne_sa_ka ne_sa_ha ge_b116 ge_ka ge_ha ge_sa) (lenOf pd1 rfl) at_56 rfl (Nat.le_of_ble_eq_true rfl) (Nat.le_of_ble_eq_true rfl) (Nat.le_of_ble_eq_true rfl) (Nat.le_of_ble_eq_true rfl) rfl (pc' := 59) rfl ?_
        rintro v120 h120 ⟨rfl, K120, Q120_E, Q120_F_act, Q120_F_heap, Q120_F_slot, Q120_F_count, Q120_F_gain, Q120_F_choices, Q120_VA, Q120_VH, Q120_VS⟩
        have X120_b116 := (Exa.keep X119_b116 K120)
        have P120 := (P119.trans K120 (allS (Or.inr lt_b116) (allS (Or.inr lt_ka) (allS (Or.inr lt_ha) (allS (Or.inr lt_sa) (all0))))))
        show Go _ _ _ _ _ _ _ _ _ _ _ h120 4 21 (mkF m 59 #[.val (.int p0), .val (.int p1), .val (.int p2), .val (.int (0 : Int32)), .val (.int (1 : Int32)), .val (.int (3 : Int32)), .val (.int (0 : Int32)), .val (.ref b116), .unset, .unset] []) _
        rw [show ([4613937818241073152, 0].set 1 (FP.dadd ([4613937818241073152, 0].getD 1 0) 4607182418800017408)) = [4613937818241073152, 4607182418800017408] from (by decide +kernel)] at Q120_VA Q120_VH Q120_VS
        have hA2 : Nums [4613937818241073152, 4607182418800017408] := nums2 (by unfold Jvm.OwnHeap.Num; decide +kernel) (by unfold Jvm.OwnHeap.Num; decide +kernel)
        have wf2 := (push_spec (by decide) hA2 wf ord1 (by decide) (by decide : 1 < 2) (abs1 wf rt (by decide) (by decide))).1
        have rt2 := push_root (A := [4613937818241073152, 4607182418800017408]) (c := 1) (S := Sl) wf.1 rt
        rw [if_neg (by decide +kernel)] at rt2
        generalize pushB [4613937818241073152, 4607182418800017408] 1 Hl Sl 1 = U120 at *
        have Q120_F_count : Fld Z h120 b116 "com/example/sightline/sightline/checker/ByActivity" "count" "I" (.int (Int32.ofNat 2)) := Q120_F_count
        refine Jvm.OwnWp.iload K at_59 rfl (pc' := 61) rfl ?_
        refine Jvm.OwnWp.iconst K (1 : Int32) at_61 (by decide) (pc' := 62) rfl ?_
        refine icY K at_62 (by decide) (pc' := 71) (by decide) (by decide) ?_
        refine Jvm.OwnWp.iload K at_71 rfl (pc' := 73) rfl ?_
        refine Jvm.OwnWp.iconst K (2 : Int32) at_73 (by decide) (pc' := 74) rfl ?_
        refine icY K at_74 (by decide) (pc' := 83) (by decide) (by decide) ?_
        refine Jvm.OwnWp.iload K at_83 rfl (pc' := 85) rfl ?_
        refine Jvm.OwnWp.iconst K (3 : Int32) at_85 (by decide) (pc' := 86) rfl ?_
        refine icN K at_86 (by decide) (pc' := 89) rfl ?_
        refine Jvm.OwnWp.iload K at_89 rfl (pc' := 91) rfl ?_
        refine Jvm.OwnWp.iconst K (4 : Int32) at_91 (by decide) (pc' := 92) rfl ?_
        refine icY K at_92 (by decide) (pc' := 99) (by decide) (by decide) ?_
        refine Jvm.OwnWp.iconst K (0 : Int32) at_99 (by decide) (pc' := 100) rfl ?_
        refine Jvm.OwnWp.istore K at_100 (Ls' := #[.val (.int p0), .val (.int p1), .val (.int p2), .val (.int (0 : Int32)), .val (.int (1 : Int32)), .val (.int (3 : Int32)), .val (.int (0 : Int32)), .val (.ref b116), .val (.int (0 : Int32)), .unset]) rfl (pc' := 102) rfl ?_
        refine Jvm.OwnWp.iload K at_102 rfl (pc' := 104) rfl ?_
        refine ifY K at_104 (by decide) (pc' := 112) (by decide) (by decide) ?_
        refine Jvm.OwnWp.iloadN K at_112 rfl (pc' := 113) rfl ?_
        refine Jvm.OwnWp.istore K at_113 (Ls' := #[.val (.int p0), .val (.int p1), .val (.int p2), .val (.int (0 : Int32)), .val (.int (1 : Int32)), .val (.int (3 : Int32)), .val (.int (0 : Int32)), .val (.ref b116), .val (.int (0 : Int32)), .val (.int (0 : Int32))]) rfl (pc' := 115) rfl ?_
        refine Jvm.OwnWp.aload K at_115 rfl rfl (pc' := 117) rfl ?_
        refine callVirt K (y := (⟨"com/example/sightline/sightline/checker/ByActivity", "pop", "()I"⟩ : MethodName)) (b := b116) (argsL := []) (S := []) (wd60 hw) (wd61 hw) (wd63 hw) (wd62 hw) (wd3 hw) (wd64 hw) (by decide) Q120_E (c_pop l Z a0 hw [] b116 ka ha sa 2 2 4607182418800017408 [4613937818241073152, 4607182418800017408] U120.1 U120.2 h120 n0 (Nat.le_trans Z0 P120.1) rfl wf2.1 wf2.2.1 (by decide) (by decide) wf2.2.2.2.1 (by decide) (by decide) Q120_E Q120_F_act Q120_F_heap Q120_F_slot Q120_F_count Q120_F_gain Q120_F_choices Q120_VA Q120_VH Q120_VS (Ne.symm ne_b116_ka) (Ne.symm ne_b116_ha) (Ne.symm ne_b116_sa) ne_ha_ka ne_sa_ka ne_sa_ha ge_b116 ge_ka ge_ha ge_sa) (lenOf pd6 rfl) at_117 rfl (Nat.le_of_ble_eq_true rfl) (Nat.le_of_ble_eq_true rfl) (Nat.le_of_ble_eq_true rfl) (Nat.le_of_ble_eq_true rfl) rfl (pc' := 120) rfl ?_
        rintro v121 h121 ⟨rfl, K121, Q121_E, Q121_F_act, Q121_F_heap, Q121_F_slot, Q121_F_count, Q121_F_gain, Q121_F_choices, Q121_VA, Q121_VH, Q121_VS⟩
        have X121_b116 := (Exa.keep Q120_E K121)
        have V121_ka := (Q120_VA.keep K121 (ninS (Ne.symm ne_b116_ka) (ninS (Ne.symm ne_ha_ka) (ninS (Ne.symm ne_sa_ka) (nin0)))))
        have P121 := (P120.trans K121 (allS (Or.inr lt_b116) (allS (Or.inr lt_ha) (allS (Or.inr lt_sa) (all0)))))
        show Go _ _ _ _ _ _ _ _ _ _ _ h121 4 21 (mkF m 120 #[.val (.int p0), .val (.int p1), .val (.int p2), .val (.int (0 : Int32)), .val (.int (1 : Int32)), .val (.int (3 : Int32)), .val (.int (0 : Int32)), .val (.ref b116), .val (.int (0 : Int32)), .val (.int (0 : Int32))] [(.int (Int32.ofNat (U120.1.getD 0 0)))]) _
        rw [rt2, show Int32.ofNat 0 = 0 from rfl]
        refine Jvm.OwnWp.iload K at_120 rfl (pc' := 122) rfl ?_
        refine icN K at_122 (by decide) (pc' := 125) rfl ?_
        refine Jvm.OwnWp.iconst K (1 : Int32) at_125 (by decide) (pc' := 126) rfl ?_
        refine goto' K at_126 (pc' := 130) (by decide) (by decide) ?_
        refine retB K (t := .boolean) rfl (by simp) at_130 (Nat.le_of_ble_eq_true rfl) (Nat.le_of_ble_eq_true rfl) ?_
        rfl
      · refine Jvm.OwnWp.iloadN K at_0 rfl (pc' := 1) rfl ?_
        refine Jvm.OwnWp.iconst K (1 : Int32) at_1 (by decide) (pc' := 2) rfl ?_
        refine Jvm.OwnWp.iand K at_2 (pc' := 3) rfl ?_
        rw [qa]
        refine Jvm.OwnWp.istoreN K at_3 (Ls' := #[.val (.int p0), .val (.int p1), .val (.int p2), .val (.int (0 : Int32)), .unset, .unset, .unset, .unset, .unset, .unset]) rfl (pc' := 4) rfl ?_
        refine Jvm.OwnWp.iconst K (1 : Int32) at_4 (by decide) (pc' := 5) rfl ?_
        refine Jvm.OwnWp.iloadN K at_5 rfl (pc' := 6) rfl ?_
        refine Jvm.OwnWp.isub K at_6 (pc' := 7) rfl ?_
        rw [show (1 : Int32) - 0 = 1 by decide]
        refine Jvm.OwnWp.istore K at_7 (Ls' := #[.val (.int p0), .val (.int p1), .val (.int p2), .val (.int (0 : Int32)), .val (.int (1 : Int32)), .unset, .unset, .unset, .unset, .unset]) rfl (pc' := 9) rfl ?_
        refine Jvm.OwnWp.iconst K (1 : Int32) at_9 (by decide) (pc' := 10) rfl ?_
        refine Jvm.OwnWp.iloadN K at_10 rfl (pc' := 11) rfl ?_
        refine Jvm.OwnWp.ldcI K (wd0 hw) at_11 (pc' := 13) rfl ?_
        refine Jvm.OwnWp.iand K at_13 (pc' := 14) rfl ?_
        refine Jvm.OwnWp.iconst K (3 : Int32) at_14 (by decide) (pc' := 15) rfl ?_
        refine Jvm.OwnWp.irem K at_15 (by decide) (pc' := 16) rfl ?_
        rw [qm]
        refine Jvm.OwnWp.iadd K at_16 (pc' := 17) rfl ?_
        rw [show (1 : Int32) + 2 = 3 by decide]
        refine Jvm.OwnWp.istore K at_17 (Ls' := #[.val (.int p0), .val (.int p1), .val (.int p2), .val (.int (0 : Int32)), .val (.int (1 : Int32)), .val (.int (3 : Int32)), .unset, .unset, .unset, .unset]) rfl (pc' := 19) rfl ?_
        refine Jvm.OwnWp.iloadN K at_19 rfl (pc' := 20) rfl ?_
        refine Jvm.OwnWp.ldcI K (wd0 hw) at_20 (pc' := 22) rfl ?_
        refine Jvm.OwnWp.iand K at_22 (pc' := 23) rfl ?_
        refine Jvm.OwnWp.iconst K (5 : Int32) at_23 (by decide) (pc' := 24) rfl ?_
        refine Jvm.OwnWp.irem K at_24 (by decide) (pc' := 25) rfl ?_
        rw [qk]
        refine Jvm.OwnWp.istore K at_25 (Ls' := #[.val (.int p0), .val (.int p1), .val (.int p2), .val (.int (0 : Int32)), .val (.int (1 : Int32)), .val (.int (3 : Int32)), .val (.int (1 : Int32)), .unset, .unset, .unset]) rfl (pc' := 27) rfl ?_
        refine newObj K (wd1 hw) (wd2 hw) (wd3 hw) at_27 (by decide) (by decide) (pc' := 30) rfl ?_
        intro h122 b122 g122 E122 A122 D122
        have lt_b122 : h0.size ≤ b122 := Nat.le_trans P0.1 (Nat.le_of_eq g122.symm)
        have ge_b122 : n0 ≤ b122 := Nat.le_trans Z0 lt_b122
        have P122 := (P0.ext E122)
        have F122_gain_b122 : Fld Z h122 b122 "com/example/sightline/sightline/checker/ByActivity" "gain" "D" (.double (0 : UInt64)) := D122 (Or.inl (wd11 hw)) (ty := .double) (by decide)
        have F122_choices_b122 : Fld Z h122 b122 "com/example/sightline/sightline/checker/ByActivity" "choices" "I" (.int (0 : Int32)) := D122 (Or.inr (wd13 hw)) (ty := .int) (by decide)
        have F122_activity_b122 : Fld Z h122 b122 "com/example/sightline/sightline/checker/ByActivity" "activity" "[D" .null := D122 (Or.inl (wd24 hw)) (ty := (.array .double)) (by decide)
        have F122_heap_b122 : Fld Z h122 b122 "com/example/sightline/sightline/checker/ByActivity" "heap" "[I" .null := D122 (Or.inl (wd28 hw)) (ty := (.array .int)) (by decide)
        have F122_slot_b122 : Fld Z h122 b122 "com/example/sightline/sightline/checker/ByActivity" "slot" "[I" .null := D122 (Or.inl (wd30 hw)) (ty := (.array .int)) (by decide)
        have F122_count_b122 : Fld Z h122 b122 "com/example/sightline/sightline/checker/ByActivity" "count" "I" (.int (0 : Int32)) := D122 (Or.inl (wd42 hw)) (ty := .int) (by decide)
        refine Jvm.OwnWp.dup K at_30 rfl (pc' := 31) rfl ?_
        refine Jvm.OwnWp.iconst K (2 : Int32) at_31 (by decide) (pc' := 32) rfl ?_
        refine callInit K (y := (⟨"com/example/sightline/sightline/checker/ByActivity", "<init>", "(I)V"⟩ : MethodName)) (b := b122) (argsL := [(.int (2 : Int32))]) (S := [(.ref b122)]) rfl (wd4 hw) (wd5 hw) (wd3 hw) (wd6 hw) rfl (by decide) (c_init l Z a0 hw [] b122 2 h122 n0 (Nat.le_trans Z0 P122.1) A122 ge_b122 F122_gain_b122 F122_choices_b122 F122_activity_b122 F122_heap_b122 F122_slot_b122 F122_count_b122) (lenOf pd1 rfl) at_32 rfl (Nat.le_of_ble_eq_true rfl) (Nat.le_of_ble_eq_true rfl) (Nat.le_of_ble_eq_true rfl) (Nat.le_of_ble_eq_true rfl) rfl (pc' := 35) rfl ?_
        rintro v123 h123 ⟨rfl, K123, I123_gain, I123_choices, I123_activity, I123_heap, I123_slot, I123_count⟩
        have X123_b122 := (Exa.keep A122 K123)
        have P123 := (P122.trans K123 (allS (Or.inr lt_b122) (all0)))
        show Go _ _ _ _ _ _ _ _ _ _ _ h123 1 6 (mkF m 35 #[.val (.int p0), .val (.int p1), .val (.int p2), .val (.int (0 : Int32)), .val (.int (1 : Int32)), .val (.int (3 : Int32)), .val (.int (1 : Int32)), .unset, .unset, .unset] [(.ref b122)]) _
        refine Jvm.OwnWp.astore K at_35 rfl (Ls' := #[.val (.int p0), .val (.int p1), .val (.int p2), .val (.int (0 : Int32)), .val (.int (1 : Int32)), .val (.int (3 : Int32)), .val (.int (1 : Int32)), .val (.ref b122), .unset, .unset]) rfl (pc' := 37) rfl ?_
        refine Jvm.OwnWp.aload K at_37 rfl rfl (pc' := 39) rfl ?_
        refine Jvm.OwnWp.iloadN K at_39 rfl (pc' := 40) rfl ?_
        refine Jvm.OwnWp.iload K at_40 rfl (pc' := 42) rfl ?_
        refine callStatic K (y := (⟨"com/example/sightline/sightline/checker/ByActivityDecayPinLaw", "bumps", "(Lcom/example/sightline/sightline/checker/ByActivity;II)V"⟩ : MethodName)) (argsL := [(.ref b122), (.int (0 : Int32)), (.int (3 : Int32))]) (S := []) (wd14 hw) (wd15 hw) (wd16 hw) (wd17 hw) (by decide) (c_b03 l Z a0 hw [] b122 h123 n0 (Nat.le_trans Z0 P123.1) X123_b122 I123_activity I123_heap I123_slot I123_count I123_gain I123_choices ge_b122) (lenOf pd4 rfl) at_42 rfl (Nat.le_of_ble_eq_true rfl) (Nat.le_of_ble_eq_true rfl) (Nat.le_of_ble_eq_true rfl) (Nat.le_of_ble_eq_true rfl) rfl (pc' := 45) rfl ?_
        rintro v124 h124 ⟨rfl, K124, ka, ha, sa, Hl, Sl, zk, zh, zs, ne_ha_ka, ne_sa_ka, ne_sa_ha, wf, rt, Q124_E, Q124_F_act, Q124_F_heap, Q124_F_slot, Q124_F_count, Q124_F_gain, Q124_F_choices, Q124_VA, Q124_VH, Q124_VS⟩
        have ne_b122_ka : b122 ≠ ka := Nat.ne_of_lt (Nat.lt_of_lt_of_le (Exa.lt X123_b122) zk)
        have lt_ka : h0.size ≤ ka := Nat.le_trans P123.1 zk
        have ge_ka : n0 ≤ ka := Nat.le_trans Z0 lt_ka
        have ne_b122_ha : b122 ≠ ha := Nat.ne_of_lt (Nat.lt_of_lt_of_le (Exa.lt X123_b122) zh)
        have lt_ha : h0.size ≤ ha := Nat.le_trans P123.1 zh
        have ge_ha : n0 ≤ ha := Nat.le_trans Z0 lt_ha
        have ne_b122_sa : b122 ≠ sa := Nat.ne_of_lt (Nat.lt_of_lt_of_le (Exa.lt X123_b122) zs)
        have lt_sa : h0.size ≤ sa := Nat.le_trans P123.1 zs
        have ge_sa : n0 ≤ sa := Nat.le_trans Z0 lt_sa
        have X124_b122 := (Exa.keep X123_b122 K124)
        have P124 := (P123.trans K124 (allS (Or.inr lt_b122) (all0)))
        show Go _ _ _ _ _ _ _ _ _ _ _ h124 4 21 (mkF m 45 #[.val (.int p0), .val (.int p1), .val (.int p2), .val (.int (0 : Int32)), .val (.int (1 : Int32)), .val (.int (3 : Int32)), .val (.int (1 : Int32)), .val (.ref b122), .unset, .unset] []) _
        refine Jvm.OwnWp.aload K at_45 rfl rfl (pc' := 47) rfl ?_
        refine Jvm.OwnWp.iload K at_47 rfl (pc' := 49) rfl ?_
        refine callStatic K (y := (⟨"com/example/sightline/sightline/checker/ByActivityDecayPinLaw", "decays", "(Lcom/example/sightline/sightline/checker/ByActivity;I)V"⟩ : MethodName)) (argsL := [(.ref b122), (.int (1 : Int32))]) (S := []) (wd51 hw) (wd52 hw) (wd16 hw) (wd53 hw) (by decide) (c_dec1 l Z a0 hw [] b122 ka ha sa h124 n0 (Nat.le_trans Z0 P124.1) Q124_E Q124_F_act Q124_F_heap Q124_F_slot Q124_F_count Q124_F_gain Q124_F_choices ge_b122) (lenOf pd5 rfl) at_49 rfl (Nat.le_of_ble_eq_true rfl) (Nat.le_of_ble_eq_true rfl) (Nat.le_of_ble_eq_true rfl) (Nat.le_of_ble_eq_true rfl) rfl (pc' := 52) rfl ?_
        rintro v125 h125 ⟨rfl, K125, Q125_F_act, Q125_F_heap, Q125_F_slot, Q125_F_count, Q125_F_gain, Q125_F_choices⟩
        have X125_b122 := (Exa.keep Q124_E K125)
        have V125_ka := (Q124_VA.keep K125 (ninS (Ne.symm ne_b122_ka) (nin0)))
        have V125_ha := (Q124_VH.keep K125 (ninS (Ne.symm ne_b122_ha) (nin0)))
        have V125_sa := (Q124_VS.keep K125 (ninS (Ne.symm ne_b122_sa) (nin0)))
        have P125 := (P124.trans K125 (allS (Or.inr lt_b122) (all0)))
        show Go _ _ _ _ _ _ _ _ _ _ _ h125 4 21 (mkF m 52 #[.val (.int p0), .val (.int p1), .val (.int p2), .val (.int (0 : Int32)), .val (.int (1 : Int32)), .val (.int (3 : Int32)), .val (.int (1 : Int32)), .val (.ref b122), .unset, .unset] []) _
        refine Jvm.OwnWp.aload K at_52 rfl rfl (pc' := 54) rfl ?_
        refine Jvm.OwnWp.iload K at_54 rfl (pc' := 56) rfl ?_
        refine callVirt K (y := (⟨"com/example/sightline/sightline/checker/ByActivity", "bump", "(I)V"⟩ : MethodName)) (b := b122) (argsL := [(.int (1 : Int32))]) (S := []) (wd18 hw) (wd19 hw) (wd21 hw) (wd20 hw) (wd3 hw) (wd22 hw) (by decide) X125_b122 (c_bumpN l Z a0 hw [] b122 ka ha sa 2 1 4609112532926033335 [4613937818241073152, 0] Hl Sl 1 h125 n0 (Nat.le_trans Z0 P125.1) rfl wf.1 wf.2.1 (by decide) (by decide) wf.2.2.2.1 (by decide) (by decide) (Jvm.Free.Fl.val64_no.mpr (by decide +kernel)) (by decide +kernel) (abs1 wf rt (by decide) (by decide)) X125_b122 Q125_F_act Q125_F_heap Q125_F_slot Q125_F_count Q125_F_gain Q125_F_choices V125_ka V125_ha V125_sa (Ne.symm ne_b122_ka) (Ne.symm ne_b122_ha) (Ne.symm ne_b122_sa) ne_ha_ka ne_sa_ka ne_sa_ha ge_b122 ge_ka ge_ha ge_sa) (lenOf pd1 rfl) at_56 rfl (Nat.le_of_ble_eq_true rfl) (Nat.le_of_ble_eq_true rfl) (Nat.le_of_ble_eq_true rfl) (Nat.le_of_ble_eq_true rfl) rfl (pc' := 59) rfl ?_
        rintro v126 h126 ⟨rfl, K126, Q126_E, Q126_F_act, Q126_F_heap, Q126_F_slot, Q126_F_count, Q126_F_gain, Q126_F_choices, Q126_VA, Q126_VH, Q126_VS⟩
        have X126_b122 := (Exa.keep X125_b122 K126)
        have P126 := (P125.trans K126 (allS (Or.inr lt_b122) (allS (Or.inr lt_ka) (allS (Or.inr lt_ha) (allS (Or.inr lt_sa) (all0))))))
        show Go _ _ _ _ _ _ _ _ _ _ _ h126 4 21 (mkF m 59 #[.val (.int p0), .val (.int p1), .val (.int p2), .val (.int (0 : Int32)), .val (.int (1 : Int32)), .val (.int (3 : Int32)), .val (.int (1 : Int32)), .val (.ref b122), .unset, .unset] []) _
        rw [show ([4613937818241073152, 0].set 1 (FP.dadd ([4613937818241073152, 0].getD 1 0) 4609112532926033335)) = [4613937818241073152, 4609112532926033335] from (by decide +kernel)] at Q126_VA Q126_VH Q126_VS
        have hA2 : Nums [4613937818241073152, 4609112532926033335] := nums2 (by unfold Jvm.OwnHeap.Num; decide +kernel) (by unfold Jvm.OwnHeap.Num; decide +kernel)
        have wf2 := (push_spec (by decide) hA2 wf ord1 (by decide) (by decide : 1 < 2) (abs1 wf rt (by decide) (by decide))).1
        have rt2 := push_root (A := [4613937818241073152, 4609112532926033335]) (c := 1) (S := Sl) wf.1 rt
        rw [if_neg (by decide +kernel)] at rt2
        generalize pushB [4613937818241073152, 4609112532926033335] 1 Hl Sl 1 = U126 at *
        have Q126_F_count : Fld Z h126 b122 "com/example/sightline/sightline/checker/ByActivity" "count" "I" (.int (Int32.ofNat 2)) := Q126_F_count
        refine Jvm.OwnWp.iload K at_59 rfl (pc' := 61) rfl ?_
        refine Jvm.OwnWp.iconst K (1 : Int32) at_61 (by decide) (pc' := 62) rfl ?_
        refine icY K at_62 (by decide) (pc' := 71) (by decide) (by decide) ?_
        refine Jvm.OwnWp.iload K at_71 rfl (pc' := 73) rfl ?_
        refine Jvm.OwnWp.iconst K (2 : Int32) at_73 (by decide) (pc' := 74) rfl ?_
        refine icY K at_74 (by decide) (pc' := 83) (by decide) (by decide) ?_
        refine Jvm.OwnWp.iload K at_83 rfl (pc' := 85) rfl ?_
        refine Jvm.OwnWp.iconst K (3 : Int32) at_85 (by decide) (pc' := 86) rfl ?_
        refine icN K at_86 (by decide) (pc' := 89) rfl ?_
        refine Jvm.OwnWp.iload K at_89 rfl (pc' := 91) rfl ?_
        refine Jvm.OwnWp.iconst K (4 : Int32) at_91 (by decide) (pc' := 92) rfl ?_
        refine icY K at_92 (by decide) (pc' := 99) (by decide) (by decide) ?_
        refine Jvm.OwnWp.iconst K (0 : Int32) at_99 (by decide) (pc' := 100) rfl ?_
        refine Jvm.OwnWp.istore K at_100 (Ls' := #[.val (.int p0), .val (.int p1), .val (.int p2), .val (.int (0 : Int32)), .val (.int (1 : Int32)), .val (.int (3 : Int32)), .val (.int (1 : Int32)), .val (.ref b122), .val (.int (0 : Int32)), .unset]) rfl (pc' := 102) rfl ?_
        refine Jvm.OwnWp.iload K at_102 rfl (pc' := 104) rfl ?_
        refine ifY K at_104 (by decide) (pc' := 112) (by decide) (by decide) ?_
        refine Jvm.OwnWp.iloadN K at_112 rfl (pc' := 113) rfl ?_
        refine Jvm.OwnWp.istore K at_113 (Ls' := #[.val (.int p0), .val (.int p1), .val (.int p2), .val (.int (0 : Int32)), .val (.int (1 : Int32)), .val (.int (3 : Int32)), .val (.int (1 : Int32)), .val (.ref b122), .val (.int (0 : Int32)), .val (.int (0 : Int32))]) rfl (pc' := 115) rfl ?_
        refine Jvm.OwnWp.aload K at_115 rfl rfl (pc' := 117) rfl ?_
        refine callVirt K (y := (⟨"com/example/sightline/sightline/checker/ByActivity", "pop", "()I"⟩ : MethodName)) (b := b122) (argsL := []) (S := []) (wd60 hw) (wd61 hw) (wd63 hw) (wd62 hw) (wd3 hw) (wd64 hw) (by decide) Q126_E (c_pop l Z a0 hw [] b122 ka ha sa 2 2 4609112532926033335 [4613937818241073152, 4609112532926033335] U126.1 U126.2 h126 n0 (Nat.le_trans Z0 P126.1) rfl wf2.1 wf2.2.1 (by decide) (by decide) wf2.2.2.2.1 (by decide) (by decide) Q126_E Q126_F_act Q126_F_heap Q126_F_slot Q126_F_count Q126_F_gain Q126_F_choices Q126_VA Q126_VH Q126_VS (Ne.symm ne_b122_ka) (Ne.symm ne_b122_ha) (Ne.symm ne_b122_sa) ne_ha_ka ne_sa_ka ne_sa_ha ge_b122 ge_ka ge_ha ge_sa) (lenOf pd6 rfl) at_117 rfl (Nat.le_of_ble_eq_true rfl) (Nat.le_of_ble_eq_true rfl) (Nat.le_of_ble_eq_true rfl) (Nat.le_of_ble_eq_true rfl) rfl (pc' := 120) rfl ?_
        rintro v127 h127 ⟨rfl, K127, Q127_E, Q127_F_act, Q127_F_heap, Q127_F_slot, Q127_F_count, Q127_F_gain, Q127_F_choices, Q127_VA, Q127_VH, Q127_VS⟩
        have X127_b122 := (Exa.keep Q126_E K127)
        have V127_ka := (Q126_VA.keep K127 (ninS (Ne.symm ne_b122_ka) (ninS (Ne.symm ne_ha_ka) (ninS (Ne.symm ne_sa_ka) (nin0)))))
        have P127 := (P126.trans K127 (allS (Or.inr lt_b122) (allS (Or.inr lt_ha) (allS (Or.inr lt_sa) (all0)))))
        show Go _ _ _ _ _ _ _ _ _ _ _ h127 4 21 (mkF m 120 #[.val (.int p0), .val (.int p1), .val (.int p2), .val (.int (0 : Int32)), .val (.int (1 : Int32)), .val (.int (3 : Int32)), .val (.int (1 : Int32)), .val (.ref b122), .val (.int (0 : Int32)), .val (.int (0 : Int32))] [(.int (Int32.ofNat (U126.1.getD 0 0)))]) _
        rw [rt2, show Int32.ofNat 0 = 0 from rfl]
        refine Jvm.OwnWp.iload K at_120 rfl (pc' := 122) rfl ?_
        refine icN K at_122 (by decide) (pc' := 125) rfl ?_
        refine Jvm.OwnWp.iconst K (1 : Int32) at_125 (by decide) (pc' := 126) rfl ?_
        refine goto' K at_126 (pc' := 130) (by decide) (by decide) ?_
        refine retB K (t := .boolean) rfl (by simp) at_130 (Nat.le_of_ble_eq_true rfl) (Nat.le_of_ble_eq_true rfl) ?_
        rfl
      · refine Jvm.OwnWp.iloadN K at_0 rfl (pc' := 1) rfl ?_
        refine Jvm.OwnWp.iconst K (1 : Int32) at_1 (by decide) (pc' := 2) rfl ?_
        refine Jvm.OwnWp.iand K at_2 (pc' := 3) rfl ?_
        rw [qa]
        refine Jvm.OwnWp.istoreN K at_3 (Ls' := #[.val (.int p0), .val (.int p1), .val (.int p2), .val (.int (0 : Int32)), .unset, .unset, .unset, .unset, .unset, .unset]) rfl (pc' := 4) rfl ?_
        refine Jvm.OwnWp.iconst K (1 : Int32) at_4 (by decide) (pc' := 5) rfl ?_
        refine Jvm.OwnWp.iloadN K at_5 rfl (pc' := 6) rfl ?_
        refine Jvm.OwnWp.isub K at_6 (pc' := 7) rfl ?_
        rw [show (1 : Int32) - 0 = 1 by decide]
        refine Jvm.OwnWp.istore K at_7 (Ls' := #[.val (.int p0), .val (.int p1), .val (.int p2), .val (.int (0 : Int32)), .val (.int (1 : Int32)), .unset, .unset, .unset, .unset, .unset]) rfl (pc' := 9) rfl ?_
        refine Jvm.OwnWp.iconst K (1 : Int32) at_9 (by decide) (pc' := 10) rfl ?_
        refine Jvm.OwnWp.iloadN K at_10 rfl (pc' := 11) rfl ?_
        refine Jvm.OwnWp.ldcI K (wd0 hw) at_11 (pc' := 13) rfl ?_
        refine Jvm.OwnWp.iand K at_13 (pc' := 14) rfl ?_
        refine Jvm.OwnWp.iconst K (3 : Int32) at_14 (by decide) (pc' := 15) rfl ?_
        refine Jvm.OwnWp.irem K at_15 (by decide) (pc' := 16) rfl ?_
        rw [qm]
        refine Jvm.OwnWp.iadd K at_16 (pc' := 17) rfl ?_
        rw [show (1 : Int32) + 2 = 3 by decide]
        refine Jvm.OwnWp.istore K at_17 (Ls' := #[.val (.int p0), .val (.int p1), .val (.int p2), .val (.int (0 : Int32)), .val (.int (1 : Int32)), .val (.int (3 : Int32)), .unset, .unset, .unset, .unset]) rfl (pc' := 19) rfl ?_
        refine Jvm.OwnWp.iloadN K at_19 rfl (pc' := 20) rfl ?_
        refine Jvm.OwnWp.ldcI K (wd0 hw) at_20 (pc' := 22) rfl ?_
        refine Jvm.OwnWp.iand K at_22 (pc' := 23) rfl ?_
        refine Jvm.OwnWp.iconst K (5 : Int32) at_23 (by decide) (pc' := 24) rfl ?_
        refine Jvm.OwnWp.irem K at_24 (by decide) (pc' := 25) rfl ?_
        rw [qk]
        refine Jvm.OwnWp.istore K at_25 (Ls' := #[.val (.int p0), .val (.int p1), .val (.int p2), .val (.int (0 : Int32)), .val (.int (1 : Int32)), .val (.int (3 : Int32)), .val (.int (2 : Int32)), .unset, .unset, .unset]) rfl (pc' := 27) rfl ?_
        refine newObj K (wd1 hw) (wd2 hw) (wd3 hw) at_27 (by decide) (by decide) (pc' := 30) rfl ?_
        intro h128 b128 g128 E128 A128 D128
        have lt_b128 : h0.size ≤ b128 := Nat.le_trans P0.1 (Nat.le_of_eq g128.symm)
        have ge_b128 : n0 ≤ b128 := Nat.le_trans Z0 lt_b128
        have P128 := (P0.ext E128)
        have F128_gain_b128 : Fld Z h128 b128 "com/example/sightline/sightline/checker/ByActivity" "gain" "D" (.double (0 : UInt64)) := D128 (Or.inl (wd11 hw)) (ty := .double) (by decide)
        have F128_choices_b128 : Fld Z h128 b128 "com/example/sightline/sightline/checker/ByActivity" "choices" "I" (.int (0 : Int32)) := D128 (Or.inr (wd13 hw)) (ty := .int) (by decide)
        have F128_activity_b128 : Fld Z h128 b128 "com/example/sightline/sightline/checker/ByActivity" "activity" "[D" .null := D128 (Or.inl (wd24 hw)) (ty := (.array .double)) (by decide)
        have F128_heap_b128 : Fld Z h128 b128 "com/example/sightline/sightline/checker/ByActivity" "heap" "[I" .null := D128 (Or.inl (wd28 hw)) (ty := (.array .int)) (by decide)
        have F128_slot_b128 : Fld Z h128 b128 "com/example/sightline/sightline/checker/ByActivity" "slot" "[I" .null := D128 (Or.inl (wd30 hw)) (ty := (.array .int)) (by decide)
        have F128_count_b128 : Fld Z h128 b128 "com/example/sightline/sightline/checker/ByActivity" "count" "I" (.int (0 : Int32)) := D128 (Or.inl (wd42 hw)) (ty := .int) (by decide)
        refine Jvm.OwnWp.dup K at_30 rfl (pc' := 31) rfl ?_
        refine Jvm.OwnWp.iconst K (2 : Int32) at_31 (by decide) (pc' := 32) rfl ?_
        refine callInit K (y := (⟨"com/example/sightline/sightline/checker/ByActivity", "<init>", "(I)V"⟩ : MethodName)) (b := b128) (argsL := [(.int (2 : Int32))]) (S := [(.ref b128)]) rfl (wd4 hw) (wd5 hw) (wd3 hw) (wd6 hw) rfl (by decide) (c_init l Z a0 hw [] b128 2 h128 n0 (Nat.le_trans Z0 P128.1) A128 ge_b128 F128_gain_b128 F128_choices_b128 F128_activity_b128 F128_heap_b128 F128_slot_b128 F128_count_b128) (lenOf pd1 rfl) at_32 rfl (Nat.le_of_ble_eq_true rfl) (Nat.le_of_ble_eq_true rfl) (Nat.le_of_ble_eq_true rfl) (Nat.le_of_ble_eq_true rfl) rfl (pc' := 35) rfl ?_
        rintro v129 h129 ⟨rfl, K129, I129_gain, I129_choices, I129_activity, I129_heap, I129_slot, I129_count⟩
        have X129_b128 := (Exa.keep A128 K129)
        have P129 := (P128.trans K129 (allS (Or.inr lt_b128) (all0)))
        show Go _ _ _ _ _ _ _ _ _ _ _ h129 1 6 (mkF m 35 #[.val (.int p0), .val (.int p1), .val (.int p2), .val (.int (0 : Int32)), .val (.int (1 : Int32)), .val (.int (3 : Int32)), .val (.int (2 : Int32)), .unset, .unset, .unset] [(.ref b128)]) _
        refine Jvm.OwnWp.astore K at_35 rfl (Ls' := #[.val (.int p0), .val (.int p1), .val (.int p2), .val (.int (0 : Int32)), .val (.int (1 : Int32)), .val (.int (3 : Int32)), .val (.int (2 : Int32)), .val (.ref b128), .unset, .unset]) rfl (pc' := 37) rfl ?_
        refine Jvm.OwnWp.aload K at_37 rfl rfl (pc' := 39) rfl ?_
        refine Jvm.OwnWp.iloadN K at_39 rfl (pc' := 40) rfl ?_
        refine Jvm.OwnWp.iload K at_40 rfl (pc' := 42) rfl ?_
        refine callStatic K (y := (⟨"com/example/sightline/sightline/checker/ByActivityDecayPinLaw", "bumps", "(Lcom/example/sightline/sightline/checker/ByActivity;II)V"⟩ : MethodName)) (argsL := [(.ref b128), (.int (0 : Int32)), (.int (3 : Int32))]) (S := []) (wd14 hw) (wd15 hw) (wd16 hw) (wd17 hw) (by decide) (c_b03 l Z a0 hw [] b128 h129 n0 (Nat.le_trans Z0 P129.1) X129_b128 I129_activity I129_heap I129_slot I129_count I129_gain I129_choices ge_b128) (lenOf pd4 rfl) at_42 rfl (Nat.le_of_ble_eq_true rfl) (Nat.le_of_ble_eq_true rfl) (Nat.le_of_ble_eq_true rfl) (Nat.le_of_ble_eq_true rfl) rfl (pc' := 45) rfl ?_
        rintro v130 h130 ⟨rfl, K130, ka, ha, sa, Hl, Sl, zk, zh, zs, ne_ha_ka, ne_sa_ka, ne_sa_ha, wf, rt, Q130_E, Q130_F_act, Q130_F_heap, Q130_F_slot, Q130_F_count, Q130_F_gain, Q130_F_choices, Q130_VA, Q130_VH, Q130_VS⟩
        have ne_b128_ka : b128 ≠ ka := Nat.ne_of_lt (Nat.lt_of_lt_of_le (Exa.lt X129_b128) zk)
        have lt_ka : h0.size ≤ ka := Nat.le_trans P129.1 zk
        have ge_ka : n0 ≤ ka := Nat.le_trans Z0 lt_ka
        have ne_b128_ha : b128 ≠ ha := Nat.ne_of_lt (Nat.lt_of_lt_of_le (Exa.lt X129_b128) zh)
        have lt_ha : h0.size ≤ ha := Nat.le_trans P129.1 zh
        have ge_ha : n0 ≤ ha := Nat.le_trans Z0 lt_ha
        have ne_b128_sa : b128 ≠ sa := Nat.ne_of_lt (Nat.lt_of_lt_of_le (Exa.lt X129_b128) zs)
        have lt_sa : h0.size ≤ sa := Nat.le_trans P129.1 zs
        have ge_sa : n0 ≤ sa := Nat.le_trans Z0 lt_sa
        have X130_b128 := (Exa.keep X129_b128 K130)
        have P130 := (P129.trans K130 (allS (Or.inr lt_b128) (all0)))
        show Go _ _ _ _ _ _ _ _ _ _ _ h130 4 21 (mkF m 45 #[.val (.int p0), .val (.int p1), .val (.int p2), .val (.int (0 : Int32)), .val (.int (1 : Int32)), .val (.int (3 : Int32)), .val (.int (2 : Int32)), .val (.ref b128), .unset, .unset] []) _
        refine Jvm.OwnWp.aload K at_45 rfl rfl (pc' := 47) rfl ?_
        refine Jvm.OwnWp.iload K at_47 rfl (pc' := 49) rfl ?_
        refine callStatic K (y := (⟨"com/example/sightline/sightline/checker/ByActivityDecayPinLaw", "decays", "(Lcom/example/sightline/sightline/checker/ByActivity;I)V"⟩ : MethodName)) (argsL := [(.ref b128), (.int (2 : Int32))]) (S := []) (wd51 hw) (wd52 hw) (wd16 hw) (wd53 hw) (by decide) (c_dec2 l Z a0 hw [] b128 ka ha sa h130 n0 (Nat.le_trans Z0 P130.1) Q130_E Q130_F_act Q130_F_heap Q130_F_slot Q130_F_count Q130_F_gain Q130_F_choices ge_b128) (lenOf pd5 rfl) at_49 rfl (Nat.le_of_ble_eq_true rfl) (Nat.le_of_ble_eq_true rfl) (Nat.le_of_ble_eq_true rfl) (Nat.le_of_ble_eq_true rfl) rfl (pc' := 52) rfl ?_
        rintro v131 h131 ⟨rfl, K131, Q131_F_act, Q131_F_heap, Q131_F_slot, Q131_F_count, Q131_F_gain, Q131_F_choices⟩
        have X131_b128 := (Exa.keep Q130_E K131)
        have V131_ka := (Q130_VA.keep K131 (ninS (Ne.symm ne_b128_ka) (nin0)))
        have V131_ha := (Q130_VH.keep K131 (ninS (Ne.symm ne_b128_ha) (nin0)))
        have V131_sa := (Q130_VS.keep K131 (ninS (Ne.symm ne_b128_sa) (nin0)))
        have P131 := (P130.trans K131 (allS (Or.inr lt_b128) (all0)))
        show Go _ _ _ _ _ _ _ _ _ _ _ h131 4 21 (mkF m 52 #[.val (.int p0), .val (.int p1), .val (.int p2), .val (.int (0 : Int32)), .val (.int (1 : Int32)), .val (.int (3 : Int32)), .val (.int (2 : Int32)), .val (.ref b128), .unset, .unset] []) _
        refine Jvm.OwnWp.aload K at_52 rfl rfl (pc' := 54) rfl ?_
        refine Jvm.OwnWp.iload K at_54 rfl (pc' := 56) rfl ?_
        refine callVirt K (y := (⟨"com/example/sightline/sightline/checker/ByActivity", "bump", "(I)V"⟩ : MethodName)) (b := b128) (argsL := [(.int (1 : Int32))]) (S := []) (wd18 hw) (wd19 hw) (wd21 hw) (wd20 hw) (wd3 hw) (wd22 hw) (by decide) X131_b128 (c_bumpN l Z a0 hw [] b128 ka ha sa 2 1 4611777928623864853 [4613937818241073152, 0] Hl Sl 1 h131 n0 (Nat.le_trans Z0 P131.1) rfl wf.1 wf.2.1 (by decide) (by decide) wf.2.2.2.1 (by decide) (by decide) (Jvm.Free.Fl.val64_no.mpr (by decide +kernel)) (by decide +kernel) (abs1 wf rt (by decide) (by decide)) X131_b128 Q131_F_act Q131_F_heap Q131_F_slot Q131_F_count Q131_F_gain Q131_F_choices V131_ka V131_ha V131_sa (Ne.symm ne_b128_ka) (Ne.symm ne_b128_ha) (Ne.symm ne_b128_sa) ne_ha_ka ne_sa_ka ne_sa_ha ge_b128 ge_ka ge_ha ge_sa) (lenOf pd1 rfl) at_56 rfl (Nat.le_of_ble_eq_true rfl) (Nat.le_of_ble_eq_true rfl) (Nat.le_of_ble_eq_true rfl) (Nat.le_of_ble_eq_true rfl) rfl (pc' := 59) rfl ?_
        rintro v132 h132 ⟨rfl, K132, Q132_E, Q132_F_act, Q132_F_heap, Q132_F_slot, Q132_F_count, Q132_F_gain, Q132_F_choices, Q132_VA, Q132_VH, Q132_VS⟩
        have X132_b128 := (Exa.keep X131_b128 K132)
        have P132 := (P131.trans K132 (allS (Or.inr lt_b128) (allS (Or.inr lt_ka) (allS (Or.inr lt_ha) (allS (Or.inr lt_sa) (all0))))))
        show Go _ _ _ _ _ _ _ _ _ _ _ h132 4 21 (mkF m 59 #[.val (.int p0), .val (.int p1), .val (.int p2), .val (.int (0 : Int32)), .val (.int (1 : Int32)), .val (.int (3 : Int32)), .val (.int (2 : Int32)), .val (.ref b128), .unset, .unset] []) _
        rw [show ([4613937818241073152, 0].set 1 (FP.dadd ([4613937818241073152, 0].getD 1 0) 4611777928623864853)) = [4613937818241073152, 4611777928623864853] from (by decide +kernel)] at Q132_VA Q132_VH Q132_VS
        have hA2 : Nums [4613937818241073152, 4611777928623864853] := nums2 (by unfold Jvm.OwnHeap.Num; decide +kernel) (by unfold Jvm.OwnHeap.Num; decide +kernel)
        have wf2 := (push_spec (by decide) hA2 wf ord1 (by decide) (by decide : 1 < 2) (abs1 wf rt (by decide) (by decide))).1
        have rt2 := push_root (A := [4613937818241073152, 4611777928623864853]) (c := 1) (S := Sl) wf.1 rt
        rw [if_neg (by decide +kernel)] at rt2
        generalize pushB [4613937818241073152, 4611777928623864853] 1 Hl Sl 1 = U132 at *
        have Q132_F_count : Fld Z h132 b128 "com/example/sightline/sightline/checker/ByActivity" "count" "I" (.int (Int32.ofNat 2)) := Q132_F_count
        refine Jvm.OwnWp.iload K at_59 rfl (pc' := 61) rfl ?_
        refine Jvm.OwnWp.iconst K (1 : Int32) at_61 (by decide) (pc' := 62) rfl ?_
        refine icY K at_62 (by decide) (pc' := 71) (by decide) (by decide) ?_
        refine Jvm.OwnWp.iload K at_71 rfl (pc' := 73) rfl ?_
        refine Jvm.OwnWp.iconst K (2 : Int32) at_73 (by decide) (pc' := 74) rfl ?_
        refine icY K at_74 (by decide) (pc' := 83) (by decide) (by decide) ?_
        refine Jvm.OwnWp.iload K at_83 rfl (pc' := 85) rfl ?_
        refine Jvm.OwnWp.iconst K (3 : Int32) at_85 (by decide) (pc' := 86) rfl ?_
        refine icN K at_86 (by decide) (pc' := 89) rfl ?_
        refine Jvm.OwnWp.iload K at_89 rfl (pc' := 91) rfl ?_
        refine Jvm.OwnWp.iconst K (4 : Int32) at_91 (by decide) (pc' := 92) rfl ?_
        refine icY K at_92 (by decide) (pc' := 99) (by decide) (by decide) ?_
        refine Jvm.OwnWp.iconst K (0 : Int32) at_99 (by decide) (pc' := 100) rfl ?_
        refine Jvm.OwnWp.istore K at_100 (Ls' := #[.val (.int p0), .val (.int p1), .val (.int p2), .val (.int (0 : Int32)), .val (.int (1 : Int32)), .val (.int (3 : Int32)), .val (.int (2 : Int32)), .val (.ref b128), .val (.int (0 : Int32)), .unset]) rfl (pc' := 102) rfl ?_
        refine Jvm.OwnWp.iload K at_102 rfl (pc' := 104) rfl ?_
        refine ifY K at_104 (by decide) (pc' := 112) (by decide) (by decide) ?_
        refine Jvm.OwnWp.iloadN K at_112 rfl (pc' := 113) rfl ?_
        refine Jvm.OwnWp.istore K at_113 (Ls' := #[.val (.int p0), .val (.int p1), .val (.int p2), .val (.int (0 : Int32)), .val (.int (1 : Int32)), .val (.int (3 : Int32)), .val (.int (2 : Int32)), .val (.ref b128), .val (.int (0 : Int32)), .val (.int (0 : Int32))]) rfl (pc' := 115) rfl ?_
        refine Jvm.OwnWp.aload K at_115 rfl rfl (pc' := 117) rfl ?_
        refine callVirt K (y := (⟨"com/example/sightline/sightline/checker/ByActivity", "pop", "()I"⟩ : MethodName)) (b := b128) (argsL := []) (S := []) (wd60 hw) (wd61 hw) (wd63 hw) (wd62 hw) (wd3 hw) (wd64 hw) (by decide) Q132_E (c_pop l Z a0 hw [] b128 ka ha sa 2 2 4611777928623864853 [4613937818241073152, 4611777928623864853] U132.1 U132.2 h132 n0 (Nat.le_trans Z0 P132.1) rfl wf2.1 wf2.2.1 (by decide) (by decide) wf2.2.2.2.1 (by decide) (by decide) Q132_E Q132_F_act Q132_F_heap Q132_F_slot Q132_F_count Q132_F_gain Q132_F_choices Q132_VA Q132_VH Q132_VS (Ne.symm ne_b128_ka) (Ne.symm ne_b128_ha) (Ne.symm ne_b128_sa) ne_ha_ka ne_sa_ka ne_sa_ha ge_b128 ge_ka ge_ha ge_sa) (lenOf pd6 rfl) at_117 rfl (Nat.le_of_ble_eq_true rfl) (Nat.le_of_ble_eq_true rfl) (Nat.le_of_ble_eq_true rfl) (Nat.le_of_ble_eq_true rfl) rfl (pc' := 120) rfl ?_
        rintro v133 h133 ⟨rfl, K133, Q133_E, Q133_F_act, Q133_F_heap, Q133_F_slot, Q133_F_count, Q133_F_gain, Q133_F_choices, Q133_VA, Q133_VH, Q133_VS⟩
        have X133_b128 := (Exa.keep Q132_E K133)
        have V133_ka := (Q132_VA.keep K133 (ninS (Ne.symm ne_b128_ka) (ninS (Ne.symm ne_ha_ka) (ninS (Ne.symm ne_sa_ka) (nin0)))))
        have P133 := (P132.trans K133 (allS (Or.inr lt_b128) (allS (Or.inr lt_ha) (allS (Or.inr lt_sa) (all0)))))
        show Go _ _ _ _ _ _ _ _ _ _ _ h133 4 21 (mkF m 120 #[.val (.int p0), .val (.int p1), .val (.int p2), .val (.int (0 : Int32)), .val (.int (1 : Int32)), .val (.int (3 : Int32)), .val (.int (2 : Int32)), .val (.ref b128), .val (.int (0 : Int32)), .val (.int (0 : Int32))] [(.int (Int32.ofNat (U132.1.getD 0 0)))]) _
        rw [rt2, show Int32.ofNat 0 = 0 from rfl]
        refine Jvm.OwnWp.iload K at_120 rfl (pc' := 122) rfl ?_
        refine icN K at_122 (by decide) (pc' := 125) rfl ?_
        refine Jvm.OwnWp.iconst K (1 : Int32) at_125 (by decide) (pc' := 126) rfl ?_
        refine goto' K at_126 (pc' := 130) (by decide) (by decide) ?_
        refine retB K (t := .boolean) rfl (by simp) at_130 (Nat.le_of_ble_eq_true rfl) (Nat.le_of_ble_eq_true rfl) ?_
        rfl
      · refine Jvm.OwnWp.iloadN K at_0 rfl (pc' := 1) rfl ?_
        refine Jvm.OwnWp.iconst K (1 : Int32) at_1 (by decide) (pc' := 2) rfl ?_
        refine Jvm.OwnWp.iand K at_2 (pc' := 3) rfl ?_
        rw [qa]
        refine Jvm.OwnWp.istoreN K at_3 (Ls' := #[.val (.int p0), .val (.int p1), .val (.int p2), .val (.int (0 : Int32)), .unset, .unset, .unset, .unset, .unset, .unset]) rfl (pc' := 4) rfl ?_
        refine Jvm.OwnWp.iconst K (1 : Int32) at_4 (by decide) (pc' := 5) rfl ?_
        refine Jvm.OwnWp.iloadN K at_5 rfl (pc' := 6) rfl ?_
        refine Jvm.OwnWp.isub K at_6 (pc' := 7) rfl ?_
        rw [show (1 : Int32) - 0 = 1 by decide]
        refine Jvm.OwnWp.istore K at_7 (Ls' := #[.val (.int p0), .val (.int p1), .val (.int p2), .val (.int (0 : Int32)), .val (.int (1 : Int32)), .unset, .unset, .unset, .unset, .unset]) rfl (pc' := 9) rfl ?_
        refine Jvm.OwnWp.iconst K (1 : Int32) at_9 (by decide) (pc' := 10) rfl ?_
        refine Jvm.OwnWp.iloadN K at_10 rfl (pc' := 11) rfl ?_
        refine Jvm.OwnWp.ldcI K (wd0 hw) at_11 (pc' := 13) rfl ?_
        refine Jvm.OwnWp.iand K at_13 (pc' := 14) rfl ?_
        refine Jvm.OwnWp.iconst K (3 : Int32) at_14 (by decide) (pc' := 15) rfl ?_
        refine Jvm.OwnWp.irem K at_15 (by decide) (pc' := 16) rfl ?_
        rw [qm]
        refine Jvm.OwnWp.iadd K at_16 (pc' := 17) rfl ?_
        rw [show (1 : Int32) + 2 = 3 by decide]
        refine Jvm.OwnWp.istore K at_17 (Ls' := #[.val (.int p0), .val (.int p1), .val (.int p2), .val (.int (0 : Int32)), .val (.int (1 : Int32)), .val (.int (3 : Int32)), .unset, .unset, .unset, .unset]) rfl (pc' := 19) rfl ?_
        refine Jvm.OwnWp.iloadN K at_19 rfl (pc' := 20) rfl ?_
        refine Jvm.OwnWp.ldcI K (wd0 hw) at_20 (pc' := 22) rfl ?_
        refine Jvm.OwnWp.iand K at_22 (pc' := 23) rfl ?_
        refine Jvm.OwnWp.iconst K (5 : Int32) at_23 (by decide) (pc' := 24) rfl ?_
        refine Jvm.OwnWp.irem K at_24 (by decide) (pc' := 25) rfl ?_
        rw [qk]
        refine Jvm.OwnWp.istore K at_25 (Ls' := #[.val (.int p0), .val (.int p1), .val (.int p2), .val (.int (0 : Int32)), .val (.int (1 : Int32)), .val (.int (3 : Int32)), .val (.int (3 : Int32)), .unset, .unset, .unset]) rfl (pc' := 27) rfl ?_
        refine newObj K (wd1 hw) (wd2 hw) (wd3 hw) at_27 (by decide) (by decide) (pc' := 30) rfl ?_
        intro h134 b134 g134 E134 A134 D134
        have lt_b134 : h0.size ≤ b134 := Nat.le_trans P0.1 (Nat.le_of_eq g134.symm)
        have ge_b134 : n0 ≤ b134 := Nat.le_trans Z0 lt_b134
        have P134 := (P0.ext E134)
        have F134_gain_b134 : Fld Z h134 b134 "com/example/sightline/sightline/checker/ByActivity" "gain" "D" (.double (0 : UInt64)) := D134 (Or.inl (wd11 hw)) (ty := .double) (by decide)
        have F134_choices_b134 : Fld Z h134 b134 "com/example/sightline/sightline/checker/ByActivity" "choices" "I" (.int (0 : Int32)) := D134 (Or.inr (wd13 hw)) (ty := .int) (by decide)
        have F134_activity_b134 : Fld Z h134 b134 "com/example/sightline/sightline/checker/ByActivity" "activity" "[D" .null := D134 (Or.inl (wd24 hw)) (ty := (.array .double)) (by decide)
        have F134_heap_b134 : Fld Z h134 b134 "com/example/sightline/sightline/checker/ByActivity" "heap" "[I" .null := D134 (Or.inl (wd28 hw)) (ty := (.array .int)) (by decide)
        have F134_slot_b134 : Fld Z h134 b134 "com/example/sightline/sightline/checker/ByActivity" "slot" "[I" .null := D134 (Or.inl (wd30 hw)) (ty := (.array .int)) (by decide)
        have F134_count_b134 : Fld Z h134 b134 "com/example/sightline/sightline/checker/ByActivity" "count" "I" (.int (0 : Int32)) := D134 (Or.inl (wd42 hw)) (ty := .int) (by decide)
        refine Jvm.OwnWp.dup K at_30 rfl (pc' := 31) rfl ?_
        refine Jvm.OwnWp.iconst K (2 : Int32) at_31 (by decide) (pc' := 32) rfl ?_
        refine callInit K (y := (⟨"com/example/sightline/sightline/checker/ByActivity", "<init>", "(I)V"⟩ : MethodName)) (b := b134) (argsL := [(.int (2 : Int32))]) (S := [(.ref b134)]) rfl (wd4 hw) (wd5 hw) (wd3 hw) (wd6 hw) rfl (by decide) (c_init l Z a0 hw [] b134 2 h134 n0 (Nat.le_trans Z0 P134.1) A134 ge_b134 F134_gain_b134 F134_choices_b134 F134_activity_b134 F134_heap_b134 F134_slot_b134 F134_count_b134) (lenOf pd1 rfl) at_32 rfl (Nat.le_of_ble_eq_true rfl) (Nat.le_of_ble_eq_true rfl) (Nat.le_of_ble_eq_true rfl) (Nat.le_of_ble_eq_true rfl) rfl (pc' := 35) rfl ?_
        rintro v135 h135 ⟨rfl, K135, I135_gain, I135_choices, I135_activity, I135_heap, I135_slot, I135_count⟩
        have X135_b134 := (Exa.keep A134 K135)
        have P135 := (P134.trans K135 (allS (Or.inr lt_b134) (all0)))
        show Go _ _ _ _ _ _ _ _ _ _ _ h135 1 6 (mkF m 35 #[.val (.int p0), .val (.int p1), .val (.int p2), .val (.int (0 : Int32)), .val (.int (1 : Int32)), .val (.int (3 : Int32)), .val (.int (3 : Int32)), .unset, .unset, .unset] [(.ref b134)]) _
        refine Jvm.OwnWp.astore K at_35 rfl (Ls' := #[.val (.int p0), .val (.int p1), .val (.int p2), .val (.int (0 : Int32)), .val (.int (1 : Int32)), .val (.int (3 : Int32)), .val (.int (3 : Int32)), .val (.ref b134), .unset, .unset]) rfl (pc' := 37) rfl ?_
        refine Jvm.OwnWp.aload K at_37 rfl rfl (pc' := 39) rfl ?_
        refine Jvm.OwnWp.iloadN K at_39 rfl (pc' := 40) rfl ?_
        refine Jvm.OwnWp.iload K at_40 rfl (pc' := 42) rfl ?_
        refine callStatic K (y := (⟨"com/example/sightline/sightline/checker/ByActivityDecayPinLaw", "bumps", "(Lcom/example/sightline/sightline/checker/ByActivity;II)V"⟩ : MethodName)) (argsL := [(.ref b134), (.int (0 : Int32)), (.int (3 : Int32))]) (S := []) (wd14 hw) (wd15 hw) (wd16 hw) (wd17 hw) (by decide) (c_b03 l Z a0 hw [] b134 h135 n0 (Nat.le_trans Z0 P135.1) X135_b134 I135_activity I135_heap I135_slot I135_count I135_gain I135_choices ge_b134) (lenOf pd4 rfl) at_42 rfl (Nat.le_of_ble_eq_true rfl) (Nat.le_of_ble_eq_true rfl) (Nat.le_of_ble_eq_true rfl) (Nat.le_of_ble_eq_true rfl) rfl (pc' := 45) rfl ?_
        rintro v136 h136 ⟨rfl, K136, ka, ha, sa, Hl, Sl, zk, zh, zs, ne_ha_ka, ne_sa_ka, ne_sa_ha, wf, rt, Q136_E, Q136_F_act, Q136_F_heap, Q136_F_slot, Q136_F_count, Q136_F_gain, Q136_F_choices, Q136_VA, Q136_VH, Q136_VS⟩
        have ne_b134_ka : b134 ≠ ka := Nat.ne_of_lt (Nat.lt_of_lt_of_le (Exa.lt X135_b134) zk)
        have lt_ka : h0.size ≤ ka := Nat.le_trans P135.1 zk
        have ge_ka : n0 ≤ ka := Nat.le_trans Z0 lt_ka
        have ne_b134_ha : b134 ≠ ha := Nat.ne_of_lt (Nat.lt_of_lt_of_le (Exa.lt X135_b134) zh)
        have lt_ha : h0.size ≤ ha := Nat.le_trans P135.1 zh
        have ge_ha : n0 ≤ ha := Nat.le_trans Z0 lt_ha
        have ne_b134_sa : b134 ≠ sa := Nat.ne_of_lt (Nat.lt_of_lt_of_le (Exa.lt X135_b134) zs)
        have lt_sa : h0.size ≤ sa := Nat.le_trans P135.1 zs
        have ge_sa : n0 ≤ sa := Nat.le_trans Z0 lt_sa
        have X136_b134 := (Exa.keep X135_b134 K136)
        have P136 := (P135.trans K136 (allS (Or.inr lt_b134) (all0)))
        show Go _ _ _ _ _ _ _ _ _ _ _ h136 4 21 (mkF m 45 #[.val (.int p0), .val (.int p1), .val (.int p2), .val (.int (0 : Int32)), .val (.int (1 : Int32)), .val (.int (3 : Int32)), .val (.int (3 : Int32)), .val (.ref b134), .unset, .unset] []) _
        refine Jvm.OwnWp.aload K at_45 rfl rfl (pc' := 47) rfl ?_
        refine Jvm.OwnWp.iload K at_47 rfl (pc' := 49) rfl ?_
        refine callStatic K (y := (⟨"com/example/sightline/sightline/checker/ByActivityDecayPinLaw", "decays", "(Lcom/example/sightline/sightline/checker/ByActivity;I)V"⟩ : MethodName)) (argsL := [(.ref b134), (.int (3 : Int32))]) (S := []) (wd51 hw) (wd52 hw) (wd16 hw) (wd53 hw) (by decide) (c_dec3 l Z a0 hw [] b134 ka ha sa h136 n0 (Nat.le_trans Z0 P136.1) Q136_E Q136_F_act Q136_F_heap Q136_F_slot Q136_F_count Q136_F_gain Q136_F_choices ge_b134) (lenOf pd5 rfl) at_49 rfl (Nat.le_of_ble_eq_true rfl) (Nat.le_of_ble_eq_true rfl) (Nat.le_of_ble_eq_true rfl) (Nat.le_of_ble_eq_true rfl) rfl (pc' := 52) rfl ?_
        rintro v137 h137 ⟨rfl, K137, Q137_F_act, Q137_F_heap, Q137_F_slot, Q137_F_count, Q137_F_gain, Q137_F_choices⟩
        have X137_b134 := (Exa.keep Q136_E K137)
        have V137_ka := (Q136_VA.keep K137 (ninS (Ne.symm ne_b134_ka) (nin0)))
        have V137_ha := (Q136_VH.keep K137 (ninS (Ne.symm ne_b134_ha) (nin0)))
        have V137_sa := (Q136_VS.keep K137 (ninS (Ne.symm ne_b134_sa) (nin0)))
        have P137 := (P136.trans K137 (allS (Or.inr lt_b134) (all0)))
        show Go _ _ _ _ _ _ _ _ _ _ _ h137 4 21 (mkF m 52 #[.val (.int p0), .val (.int p1), .val (.int p2), .val (.int (0 : Int32)), .val (.int (1 : Int32)), .val (.int (3 : Int32)), .val (.int (3 : Int32)), .val (.ref b134), .unset, .unset] []) _
        refine Jvm.OwnWp.aload K at_52 rfl rfl (pc' := 54) rfl ?_
        refine Jvm.OwnWp.iload K at_54 rfl (pc' := 56) rfl ?_
        refine callVirt K (y := (⟨"com/example/sightline/sightline/checker/ByActivity", "bump", "(I)V"⟩ : MethodName)) (b := b134) (argsL := [(.int (1 : Int32))]) (S := []) (wd18 hw) (wd19 hw) (wd21 hw) (wd20 hw) (wd3 hw) (wd22 hw) (by decide) X137_b134 (c_bumpN l Z a0 hw [] b134 ka ha sa 2 1 4613747432834085187 [4613937818241073152, 0] Hl Sl 1 h137 n0 (Nat.le_trans Z0 P137.1) rfl wf.1 wf.2.1 (by decide) (by decide) wf.2.2.2.1 (by decide) (by decide) (Jvm.Free.Fl.val64_no.mpr (by decide +kernel)) (by decide +kernel) (abs1 wf rt (by decide) (by decide)) X137_b134 Q137_F_act Q137_F_heap Q137_F_slot Q137_F_count Q137_F_gain Q137_F_choices V137_ka V137_ha V137_sa (Ne.symm ne_b134_ka) (Ne.symm ne_b134_ha) (Ne.symm ne_b134_sa) ne_ha_ka ne_sa_ka ne_sa_ha ge_b134 ge_ka ge_ha ge_sa) (lenOf pd1 rfl) at_56 rfl (Nat.le_of_ble_eq_true rfl) (Nat.le_of_ble_eq_true rfl) (Nat.le_of_ble_eq_true rfl) (Nat.le_of_ble_eq_true rfl) rfl (pc' := 59) rfl ?_
        rintro v138 h138 ⟨rfl, K138, Q138_E, Q138_F_act, Q138_F_heap, Q138_F_slot, Q138_F_count, Q138_F_gain, Q138_F_choices, Q138_VA, Q138_VH, Q138_VS⟩
        have X138_b134 := (Exa.keep X137_b134 K138)
        have P138 := (P137.trans K138 (allS (Or.inr lt_b134) (allS (Or.inr lt_ka) (allS (Or.inr lt_ha) (allS (Or.inr lt_sa) (all0))))))
        show Go _ _ _ _ _ _ _ _ _ _ _ h138 4 21 (mkF m 59 #[.val (.int p0), .val (.int p1), .val (.int p2), .val (.int (0 : Int32)), .val (.int (1 : Int32)), .val (.int (3 : Int32)), .val (.int (3 : Int32)), .val (.ref b134), .unset, .unset] []) _
        rw [show ([4613937818241073152, 0].set 1 (FP.dadd ([4613937818241073152, 0].getD 1 0) 4613747432834085187)) = [4613937818241073152, 4613747432834085187] from (by decide +kernel)] at Q138_VA Q138_VH Q138_VS
        have hA2 : Nums [4613937818241073152, 4613747432834085187] := nums2 (by unfold Jvm.OwnHeap.Num; decide +kernel) (by unfold Jvm.OwnHeap.Num; decide +kernel)
        have wf2 := (push_spec (by decide) hA2 wf ord1 (by decide) (by decide : 1 < 2) (abs1 wf rt (by decide) (by decide))).1
        have rt2 := push_root (A := [4613937818241073152, 4613747432834085187]) (c := 1) (S := Sl) wf.1 rt
        rw [if_neg (by decide +kernel)] at rt2
        generalize pushB [4613937818241073152, 4613747432834085187] 1 Hl Sl 1 = U138 at *
        have Q138_F_count : Fld Z h138 b134 "com/example/sightline/sightline/checker/ByActivity" "count" "I" (.int (Int32.ofNat 2)) := Q138_F_count
        refine Jvm.OwnWp.iload K at_59 rfl (pc' := 61) rfl ?_
        refine Jvm.OwnWp.iconst K (1 : Int32) at_61 (by decide) (pc' := 62) rfl ?_
        refine icY K at_62 (by decide) (pc' := 71) (by decide) (by decide) ?_
        refine Jvm.OwnWp.iload K at_71 rfl (pc' := 73) rfl ?_
        refine Jvm.OwnWp.iconst K (2 : Int32) at_73 (by decide) (pc' := 74) rfl ?_
        refine icY K at_74 (by decide) (pc' := 83) (by decide) (by decide) ?_
        refine Jvm.OwnWp.iload K at_83 rfl (pc' := 85) rfl ?_
        refine Jvm.OwnWp.iconst K (3 : Int32) at_85 (by decide) (pc' := 86) rfl ?_
        refine icN K at_86 (by decide) (pc' := 89) rfl ?_
        refine Jvm.OwnWp.iload K at_89 rfl (pc' := 91) rfl ?_
        refine Jvm.OwnWp.iconst K (4 : Int32) at_91 (by decide) (pc' := 92) rfl ?_
        refine icY K at_92 (by decide) (pc' := 99) (by decide) (by decide) ?_
        refine Jvm.OwnWp.iconst K (0 : Int32) at_99 (by decide) (pc' := 100) rfl ?_
        refine Jvm.OwnWp.istore K at_100 (Ls' := #[.val (.int p0), .val (.int p1), .val (.int p2), .val (.int (0 : Int32)), .val (.int (1 : Int32)), .val (.int (3 : Int32)), .val (.int (3 : Int32)), .val (.ref b134), .val (.int (0 : Int32)), .unset]) rfl (pc' := 102) rfl ?_
        refine Jvm.OwnWp.iload K at_102 rfl (pc' := 104) rfl ?_
        refine ifY K at_104 (by decide) (pc' := 112) (by decide) (by decide) ?_
        refine Jvm.OwnWp.iloadN K at_112 rfl (pc' := 113) rfl ?_
        refine Jvm.OwnWp.istore K at_113 (Ls' := #[.val (.int p0), .val (.int p1), .val (.int p2), .val (.int (0 : Int32)), .val (.int (1 : Int32)), .val (.int (3 : Int32)), .val (.int (3 : Int32)), .val (.ref b134), .val (.int (0 : Int32)), .val (.int (0 : Int32))]) rfl (pc' := 115) rfl ?_
        refine Jvm.OwnWp.aload K at_115 rfl rfl (pc' := 117) rfl ?_
        refine callVirt K (y := (⟨"com/example/sightline/sightline/checker/ByActivity", "pop", "()I"⟩ : MethodName)) (b := b134) (argsL := []) (S := []) (wd60 hw) (wd61 hw) (wd63 hw) (wd62 hw) (wd3 hw) (wd64 hw) (by decide) Q138_E (c_pop l Z a0 hw [] b134 ka ha sa 2 2 4613747432834085187 [4613937818241073152, 4613747432834085187] U138.1 U138.2 h138 n0 (Nat.le_trans Z0 P138.1) rfl wf2.1 wf2.2.1 (by decide) (by decide) wf2.2.2.2.1 (by decide) (by decide) Q138_E Q138_F_act Q138_F_heap Q138_F_slot Q138_F_count Q138_F_gain Q138_F_choices Q138_VA Q138_VH Q138_VS (Ne.symm ne_b134_ka) (Ne.symm ne_b134_ha) (Ne.symm ne_b134_sa) ne_ha_ka ne_sa_ka ne_sa_ha ge_b134 ge_ka ge_ha ge_sa) (lenOf pd6 rfl) at_117 rfl (Nat.le_of_ble_eq_true rfl) (Nat.le_of_ble_eq_true rfl) (Nat.le_of_ble_eq_true rfl) (Nat.le_of_ble_eq_true rfl) rfl (pc' := 120) rfl ?_
        rintro v139 h139 ⟨rfl, K139, Q139_E, Q139_F_act, Q139_F_heap, Q139_F_slot, Q139_F_count, Q139_F_gain, Q139_F_choices, Q139_VA, Q139_VH, Q139_VS⟩
        have X139_b134 := (Exa.keep Q138_E K139)
        have V139_ka := (Q138_VA.keep K139 (ninS (Ne.symm ne_b134_ka) (ninS (Ne.symm ne_ha_ka) (ninS (Ne.symm ne_sa_ka) (nin0)))))
        have P139 := (P138.trans K139 (allS (Or.inr lt_b134) (allS (Or.inr lt_ha) (allS (Or.inr lt_sa) (all0)))))
        show Go _ _ _ _ _ _ _ _ _ _ _ h139 4 21 (mkF m 120 #[.val (.int p0), .val (.int p1), .val (.int p2), .val (.int (0 : Int32)), .val (.int (1 : Int32)), .val (.int (3 : Int32)), .val (.int (3 : Int32)), .val (.ref b134), .val (.int (0 : Int32)), .val (.int (0 : Int32))] [(.int (Int32.ofNat (U138.1.getD 0 0)))]) _
        rw [rt2, show Int32.ofNat 0 = 0 from rfl]
        refine Jvm.OwnWp.iload K at_120 rfl (pc' := 122) rfl ?_
        refine icN K at_122 (by decide) (pc' := 125) rfl ?_
        refine Jvm.OwnWp.iconst K (1 : Int32) at_125 (by decide) (pc' := 126) rfl ?_
        refine goto' K at_126 (pc' := 130) (by decide) (by decide) ?_
        refine retB K (t := .boolean) rfl (by simp) at_130 (Nat.le_of_ble_eq_true rfl) (Nat.le_of_ble_eq_true rfl) ?_
        rfl
      · refine Jvm.OwnWp.iloadN K at_0 rfl (pc' := 1) rfl ?_
        refine Jvm.OwnWp.iconst K (1 : Int32) at_1 (by decide) (pc' := 2) rfl ?_
        refine Jvm.OwnWp.iand K at_2 (pc' := 3) rfl ?_
        rw [qa]
        refine Jvm.OwnWp.istoreN K at_3 (Ls' := #[.val (.int p0), .val (.int p1), .val (.int p2), .val (.int (0 : Int32)), .unset, .unset, .unset, .unset, .unset, .unset]) rfl (pc' := 4) rfl ?_
        refine Jvm.OwnWp.iconst K (1 : Int32) at_4 (by decide) (pc' := 5) rfl ?_
        refine Jvm.OwnWp.iloadN K at_5 rfl (pc' := 6) rfl ?_
        refine Jvm.OwnWp.isub K at_6 (pc' := 7) rfl ?_
        rw [show (1 : Int32) - 0 = 1 by decide]
        refine Jvm.OwnWp.istore K at_7 (Ls' := #[.val (.int p0), .val (.int p1), .val (.int p2), .val (.int (0 : Int32)), .val (.int (1 : Int32)), .unset, .unset, .unset, .unset, .unset]) rfl (pc' := 9) rfl ?_
        refine Jvm.OwnWp.iconst K (1 : Int32) at_9 (by decide) (pc' := 10) rfl ?_
        refine Jvm.OwnWp.iloadN K at_10 rfl (pc' := 11) rfl ?_
        refine Jvm.OwnWp.ldcI K (wd0 hw) at_11 (pc' := 13) rfl ?_
        refine Jvm.OwnWp.iand K at_13 (pc' := 14) rfl ?_
        refine Jvm.OwnWp.iconst K (3 : Int32) at_14 (by decide) (pc' := 15) rfl ?_
        refine Jvm.OwnWp.irem K at_15 (by decide) (pc' := 16) rfl ?_
        rw [qm]
        refine Jvm.OwnWp.iadd K at_16 (pc' := 17) rfl ?_
        rw [show (1 : Int32) + 2 = 3 by decide]
        refine Jvm.OwnWp.istore K at_17 (Ls' := #[.val (.int p0), .val (.int p1), .val (.int p2), .val (.int (0 : Int32)), .val (.int (1 : Int32)), .val (.int (3 : Int32)), .unset, .unset, .unset, .unset]) rfl (pc' := 19) rfl ?_
        refine Jvm.OwnWp.iloadN K at_19 rfl (pc' := 20) rfl ?_
        refine Jvm.OwnWp.ldcI K (wd0 hw) at_20 (pc' := 22) rfl ?_
        refine Jvm.OwnWp.iand K at_22 (pc' := 23) rfl ?_
        refine Jvm.OwnWp.iconst K (5 : Int32) at_23 (by decide) (pc' := 24) rfl ?_
        refine Jvm.OwnWp.irem K at_24 (by decide) (pc' := 25) rfl ?_
        rw [qk]
        refine Jvm.OwnWp.istore K at_25 (Ls' := #[.val (.int p0), .val (.int p1), .val (.int p2), .val (.int (0 : Int32)), .val (.int (1 : Int32)), .val (.int (3 : Int32)), .val (.int (4 : Int32)), .unset, .unset, .unset]) rfl (pc' := 27) rfl ?_
        refine newObj K (wd1 hw) (wd2 hw) (wd3 hw) at_27 (by decide) (by decide) (pc' := 30) rfl ?_
        intro h140 b140 g140 E140 A140 D140
        have lt_b140 : h0.size ≤ b140 := Nat.le_trans P0.1 (Nat.le_of_eq g140.symm)
        have ge_b140 : n0 ≤ b140 := Nat.le_trans Z0 lt_b140
        have P140 := (P0.ext E140)
        have F140_gain_b140 : Fld Z h140 b140 "com/example/sightline/sightline/checker/ByActivity" "gain" "D" (.double (0 : UInt64)) := D140 (Or.inl (wd11 hw)) (ty := .double) (by decide)
        have F140_choices_b140 : Fld Z h140 b140 "com/example/sightline/sightline/checker/ByActivity" "choices" "I" (.int (0 : Int32)) := D140 (Or.inr (wd13 hw)) (ty := .int) (by decide)
        have F140_activity_b140 : Fld Z h140 b140 "com/example/sightline/sightline/checker/ByActivity" "activity" "[D" .null := D140 (Or.inl (wd24 hw)) (ty := (.array .double)) (by decide)
        have F140_heap_b140 : Fld Z h140 b140 "com/example/sightline/sightline/checker/ByActivity" "heap" "[I" .null := D140 (Or.inl (wd28 hw)) (ty := (.array .int)) (by decide)
        have F140_slot_b140 : Fld Z h140 b140 "com/example/sightline/sightline/checker/ByActivity" "slot" "[I" .null := D140 (Or.inl (wd30 hw)) (ty := (.array .int)) (by decide)
        have F140_count_b140 : Fld Z h140 b140 "com/example/sightline/sightline/checker/ByActivity" "count" "I" (.int (0 : Int32)) := D140 (Or.inl (wd42 hw)) (ty := .int) (by decide)
        refine Jvm.OwnWp.dup K at_30 rfl (pc' := 31) rfl ?_
        refine Jvm.OwnWp.iconst K (2 : Int32) at_31 (by decide) (pc' := 32) rfl ?_
        refine callInit K (y := (⟨"com/example/sightline/sightline/checker/ByActivity", "<init>", "(I)V"⟩ : MethodName)) (b := b140) (argsL := [(.int (2 : Int32))]) (S := [(.ref b140)]) rfl (wd4 hw) (wd5 hw) (wd3 hw) (wd6 hw) rfl (by decide) (c_init l Z a0 hw [] b140 2 h140 n0 (Nat.le_trans Z0 P140.1) A140 ge_b140 F140_gain_b140 F140_choices_b140 F140_activity_b140 F140_heap_b140 F140_slot_b140 F140_count_b140) (lenOf pd1 rfl) at_32 rfl (Nat.le_of_ble_eq_true rfl) (Nat.le_of_ble_eq_true rfl) (Nat.le_of_ble_eq_true rfl) (Nat.le_of_ble_eq_true rfl) rfl (pc' := 35) rfl ?_
        rintro v141 h141 ⟨rfl, K141, I141_gain, I141_choices, I141_activity, I141_heap, I141_slot, I141_count⟩
        have X141_b140 := (Exa.keep A140 K141)
        have P141 := (P140.trans K141 (allS (Or.inr lt_b140) (all0)))
        show Go _ _ _ _ _ _ _ _ _ _ _ h141 1 6 (mkF m 35 #[.val (.int p0), .val (.int p1), .val (.int p2), .val (.int (0 : Int32)), .val (.int (1 : Int32)), .val (.int (3 : Int32)), .val (.int (4 : Int32)), .unset, .unset, .unset] [(.ref b140)]) _
        refine Jvm.OwnWp.astore K at_35 rfl (Ls' := #[.val (.int p0), .val (.int p1), .val (.int p2), .val (.int (0 : Int32)), .val (.int (1 : Int32)), .val (.int (3 : Int32)), .val (.int (4 : Int32)), .val (.ref b140), .unset, .unset]) rfl (pc' := 37) rfl ?_
        refine Jvm.OwnWp.aload K at_37 rfl rfl (pc' := 39) rfl ?_
        refine Jvm.OwnWp.iloadN K at_39 rfl (pc' := 40) rfl ?_
        refine Jvm.OwnWp.iload K at_40 rfl (pc' := 42) rfl ?_
        refine callStatic K (y := (⟨"com/example/sightline/sightline/checker/ByActivityDecayPinLaw", "bumps", "(Lcom/example/sightline/sightline/checker/ByActivity;II)V"⟩ : MethodName)) (argsL := [(.ref b140), (.int (0 : Int32)), (.int (3 : Int32))]) (S := []) (wd14 hw) (wd15 hw) (wd16 hw) (wd17 hw) (by decide) (c_b03 l Z a0 hw [] b140 h141 n0 (Nat.le_trans Z0 P141.1) X141_b140 I141_activity I141_heap I141_slot I141_count I141_gain I141_choices ge_b140) (lenOf pd4 rfl) at_42 rfl (Nat.le_of_ble_eq_true rfl) (Nat.le_of_ble_eq_true rfl) (Nat.le_of_ble_eq_true rfl) (Nat.le_of_ble_eq_true rfl) rfl (pc' := 45) rfl ?_
        rintro v142 h142 ⟨rfl, K142, ka, ha, sa, Hl, Sl, zk, zh, zs, ne_ha_ka, ne_sa_ka, ne_sa_ha, wf, rt, Q142_E, Q142_F_act, Q142_F_heap, Q142_F_slot, Q142_F_count, Q142_F_gain, Q142_F_choices, Q142_VA, Q142_VH, Q142_VS⟩
        have ne_b140_ka : b140 ≠ ka := Nat.ne_of_lt (Nat.lt_of_lt_of_le (Exa.lt X141_b140) zk)
        have lt_ka : h0.size ≤ ka := Nat.le_trans P141.1 zk
        have ge_ka : n0 ≤ ka := Nat.le_trans Z0 lt_ka
        have ne_b140_ha : b140 ≠ ha := Nat.ne_of_lt (Nat.lt_of_lt_of_le (Exa.lt X141_b140) zh)
        have lt_ha : h0.size ≤ ha := Nat.le_trans P141.1 zh
        have ge_ha : n0 ≤ ha := Nat.le_trans Z0 lt_ha
        have ne_b140_sa : b140 ≠ sa := Nat.ne_of_lt (Nat.lt_of_lt_of_le (Exa.lt X141_b140) zs)
        have lt_sa : h0.size ≤ sa := Nat.le_trans P141.1 zs
        have ge_sa : n0 ≤ sa := Nat.le_trans Z0 lt_sa
        have X142_b140 := (Exa.keep X141_b140 K142)
        have P142 := (P141.trans K142 (allS (Or.inr lt_b140) (all0)))
        show Go _ _ _ _ _ _ _ _ _ _ _ h142 4 21 (mkF m 45 #[.val (.int p0), .val (.int p1), .val (.int p2), .val (.int (0 : Int32)), .val (.int (1 : Int32)), .val (.int (3 : Int32)), .val (.int (4 : Int32)), .val (.ref b140), .unset, .unset] []) _
        refine Jvm.OwnWp.aload K at_45 rfl rfl (pc' := 47) rfl ?_
        refine Jvm.OwnWp.iload K at_47 rfl (pc' := 49) rfl ?_
        refine callStatic K (y := (⟨"com/example/sightline/sightline/checker/ByActivityDecayPinLaw", "decays", "(Lcom/example/sightline/sightline/checker/ByActivity;I)V"⟩ : MethodName)) (argsL := [(.ref b140), (.int (4 : Int32))]) (S := []) (wd51 hw) (wd52 hw) (wd16 hw) (wd53 hw) (by decide) (c_dec4 l Z a0 hw [] b140 ka ha sa h142 n0 (Nat.le_trans Z0 P142.1) Q142_E Q142_F_act Q142_F_heap Q142_F_slot Q142_F_count Q142_F_gain Q142_F_choices ge_b140) (lenOf pd5 rfl) at_49 rfl (Nat.le_of_ble_eq_true rfl) (Nat.le_of_ble_eq_true rfl) (Nat.le_of_ble_eq_true rfl) (Nat.le_of_ble_eq_true rfl) rfl (pc' := 52) rfl ?_
        rintro v143 h143 ⟨rfl, K143, Q143_F_act, Q143_F_heap, Q143_F_slot, Q143_F_count, Q143_F_gain, Q143_F_choices⟩
        have X143_b140 := (Exa.keep Q142_E K143)
        have V143_ka := (Q142_VA.keep K143 (ninS (Ne.symm ne_b140_ka) (nin0)))
        have V143_ha := (Q142_VH.keep K143 (ninS (Ne.symm ne_b140_ha) (nin0)))
        have V143_sa := (Q142_VS.keep K143 (ninS (Ne.symm ne_b140_sa) (nin0)))
        have P143 := (P142.trans K143 (allS (Or.inr lt_b140) (all0)))
        show Go _ _ _ _ _ _ _ _ _ _ _ h143 4 21 (mkF m 52 #[.val (.int p0), .val (.int p1), .val (.int p2), .val (.int (0 : Int32)), .val (.int (1 : Int32)), .val (.int (3 : Int32)), .val (.int (4 : Int32)), .val (.ref b140), .unset, .unset] []) _
        refine Jvm.OwnWp.aload K at_52 rfl rfl (pc' := 54) rfl ?_
        refine Jvm.OwnWp.iload K at_54 rfl (pc' := 56) rfl ?_
        refine callVirt K (y := (⟨"com/example/sightline/sightline/checker/ByActivity", "bump", "(I)V"⟩ : MethodName)) (b := b140) (argsL := [(.int (1 : Int32))]) (S := []) (wd18 hw) (wd19 hw) (wd21 hw) (wd20 hw) (wd3 hw) (wd22 hw) (by decide) X143_b140 (c_bumpN l Z a0 hw [] b140 ka ha sa 2 1 4616375314166007746 [4613937818241073152, 0] Hl Sl 1 h143 n0 (Nat.le_trans Z0 P143.1) rfl wf.1 wf.2.1 (by decide) (by decide) wf.2.2.2.1 (by decide) (by decide) (Jvm.Free.Fl.val64_no.mpr (by decide +kernel)) (by decide +kernel) (abs1 wf rt (by decide) (by decide)) X143_b140 Q143_F_act Q143_F_heap Q143_F_slot Q143_F_count Q143_F_gain Q143_F_choices V143_ka V143_ha V143_sa (Ne.symm ne_b140_ka) (Ne.symm ne_b140_ha) (Ne.symm ne_b140_sa) ne_ha_ka ne_sa_ka ne_sa_ha ge_b140 ge_ka ge_ha ge_sa) (lenOf pd1 rfl) at_56 rfl (Nat.le_of_ble_eq_true rfl) (Nat.le_of_ble_eq_true rfl) (Nat.le_of_ble_eq_true rfl) (Nat.le_of_ble_eq_true rfl) rfl (pc' := 59) rfl ?_
        rintro v144 h144 ⟨rfl, K144, Q144_E, Q144_F_act, Q144_F_heap, Q144_F_slot, Q144_F_count, Q144_F_gain, Q144_F_choices, Q144_VA, Q144_VH, Q144_VS⟩
        have X144_b140 := (Exa.keep X143_b140 K144)
        have P144 := (P143.trans K144 (allS (Or.inr lt_b140) (allS (Or.inr lt_ka) (allS (Or.inr lt_ha) (allS (Or.inr lt_sa) (all0))))))
        show Go _ _ _ _ _ _ _ _ _ _ _ h144 4 21 (mkF m 59 #[.val (.int p0), .val (.int p1), .val (.int p2), .val (.int (0 : Int32)), .val (.int (1 : Int32)), .val (.int (3 : Int32)), .val (.int (4 : Int32)), .val (.ref b140), .unset, .unset] []) _
        rw [show ([4613937818241073152, 0].set 1 (FP.dadd ([4613937818241073152, 0].getD 1 0) 4616375314166007746)) = [4613937818241073152, 4616375314166007746] from (by decide +kernel)] at Q144_VA Q144_VH Q144_VS
        have hA2 : Nums [4613937818241073152, 4616375314166007746] := nums2 (by unfold Jvm.OwnHeap.Num; decide +kernel) (by unfold Jvm.OwnHeap.Num; decide +kernel)
        have wf2 := (push_spec (by decide) hA2 wf ord1 (by decide) (by decide : 1 < 2) (abs1 wf rt (by decide) (by decide))).1
        have rt2 := push_root (A := [4613937818241073152, 4616375314166007746]) (c := 1) (S := Sl) wf.1 rt
        rw [if_pos (by decide +kernel)] at rt2
        generalize pushB [4613937818241073152, 4616375314166007746] 1 Hl Sl 1 = U144 at *
        have Q144_F_count : Fld Z h144 b140 "com/example/sightline/sightline/checker/ByActivity" "count" "I" (.int (Int32.ofNat 2)) := Q144_F_count
        refine Jvm.OwnWp.iload K at_59 rfl (pc' := 61) rfl ?_
        refine Jvm.OwnWp.iconst K (1 : Int32) at_61 (by decide) (pc' := 62) rfl ?_
        refine icY K at_62 (by decide) (pc' := 71) (by decide) (by decide) ?_
        refine Jvm.OwnWp.iload K at_71 rfl (pc' := 73) rfl ?_
        refine Jvm.OwnWp.iconst K (2 : Int32) at_73 (by decide) (pc' := 74) rfl ?_
        refine icY K at_74 (by decide) (pc' := 83) (by decide) (by decide) ?_
        refine Jvm.OwnWp.iload K at_83 rfl (pc' := 85) rfl ?_
        refine Jvm.OwnWp.iconst K (3 : Int32) at_85 (by decide) (pc' := 86) rfl ?_
        refine icN K at_86 (by decide) (pc' := 89) rfl ?_
        refine Jvm.OwnWp.iload K at_89 rfl (pc' := 91) rfl ?_
        refine Jvm.OwnWp.iconst K (4 : Int32) at_91 (by decide) (pc' := 92) rfl ?_
        refine icN K at_92 (by decide) (pc' := 95) rfl ?_
        refine Jvm.OwnWp.iconst K (1 : Int32) at_95 (by decide) (pc' := 96) rfl ?_
        refine goto' K at_96 (pc' := 100) (by decide) (by decide) ?_
        refine Jvm.OwnWp.istore K at_100 (Ls' := #[.val (.int p0), .val (.int p1), .val (.int p2), .val (.int (0 : Int32)), .val (.int (1 : Int32)), .val (.int (3 : Int32)), .val (.int (4 : Int32)), .val (.ref b140), .val (.int (1 : Int32)), .unset]) rfl (pc' := 102) rfl ?_
        refine Jvm.OwnWp.iload K at_102 rfl (pc' := 104) rfl ?_
        refine ifN K at_104 (by decide) (pc' := 107) rfl ?_
        refine Jvm.OwnWp.iload K at_107 rfl (pc' := 109) rfl ?_
        refine goto' K at_109 (pc' := 113) (by decide) (by decide) ?_
        refine Jvm.OwnWp.istore K at_113 (Ls' := #[.val (.int p0), .val (.int p1), .val (.int p2), .val (.int (0 : Int32)), .val (.int (1 : Int32)), .val (.int (3 : Int32)), .val (.int (4 : Int32)), .val (.ref b140), .val (.int (1 : Int32)), .val (.int (1 : Int32))]) rfl (pc' := 115) rfl ?_
        refine Jvm.OwnWp.aload K at_115 rfl rfl (pc' := 117) rfl ?_
        refine callVirt K (y := (⟨"com/example/sightline/sightline/checker/ByActivity", "pop", "()I"⟩ : MethodName)) (b := b140) (argsL := []) (S := []) (wd60 hw) (wd61 hw) (wd63 hw) (wd62 hw) (wd3 hw) (wd64 hw) (by decide) Q144_E (c_pop l Z a0 hw [] b140 ka ha sa 2 2 4616375314166007746 [4613937818241073152, 4616375314166007746] U144.1 U144.2 h144 n0 (Nat.le_trans Z0 P144.1) rfl wf2.1 wf2.2.1 (by decide) (by decide) wf2.2.2.2.1 (by decide) (by decide) Q144_E Q144_F_act Q144_F_heap Q144_F_slot Q144_F_count Q144_F_gain Q144_F_choices Q144_VA Q144_VH Q144_VS (Ne.symm ne_b140_ka) (Ne.symm ne_b140_ha) (Ne.symm ne_b140_sa) ne_ha_ka ne_sa_ka ne_sa_ha ge_b140 ge_ka ge_ha ge_sa) (lenOf pd6 rfl) at_117 rfl (Nat.le_of_ble_eq_true rfl) (Nat.le_of_ble_eq_true rfl) (Nat.le_of_ble_eq_true rfl) (Nat.le_of_ble_eq_true rfl) rfl (pc' := 120) rfl ?_
        rintro v145 h145 ⟨rfl, K145, Q145_E, Q145_F_act, Q145_F_heap, Q145_F_slot, Q145_F_count, Q145_F_gain, Q145_F_choices, Q145_VA, Q145_VH, Q145_VS⟩
        have X145_b140 := (Exa.keep Q144_E K145)
        have V145_ka := (Q144_VA.keep K145 (ninS (Ne.symm ne_b140_ka) (ninS (Ne.symm ne_ha_ka) (ninS (Ne.symm ne_sa_ka) (nin0)))))
        have P145 := (P144.trans K145 (allS (Or.inr lt_b140) (allS (Or.inr lt_ha) (allS (Or.inr lt_sa) (all0)))))
        show Go _ _ _ _ _ _ _ _ _ _ _ h145 4 21 (mkF m 120 #[.val (.int p0), .val (.int p1), .val (.int p2), .val (.int (0 : Int32)), .val (.int (1 : Int32)), .val (.int (3 : Int32)), .val (.int (4 : Int32)), .val (.ref b140), .val (.int (1 : Int32)), .val (.int (1 : Int32))] [(.int (Int32.ofNat (U144.1.getD 0 0)))]) _
        rw [rt2, show Int32.ofNat 1 = 1 from rfl]
        refine Jvm.OwnWp.iload K at_120 rfl (pc' := 122) rfl ?_
        refine icN K at_122 (by decide) (pc' := 125) rfl ?_
        refine Jvm.OwnWp.iconst K (1 : Int32) at_125 (by decide) (pc' := 126) rfl ?_
        refine goto' K at_126 (pc' := 130) (by decide) (by decide) ?_
        refine retB K (t := .boolean) rfl (by simp) at_130 (Nat.le_of_ble_eq_true rfl) (Nat.le_of_ble_eq_true rfl) ?_
        rfl
  · rcases own_m p1 with qm | qm | qm
    · rcases own_k p2 with qk | qk | qk | qk | qk
      · refine Jvm.OwnWp.iloadN K at_0 rfl (pc' := 1) rfl ?_
        refine Jvm.OwnWp.iconst K (1 : Int32) at_1 (by decide) (pc' := 2) rfl ?_
        refine Jvm.OwnWp.iand K at_2 (pc' := 3) rfl ?_
        rw [qa]
        refine Jvm.OwnWp.istoreN K at_3 (Ls' := #[.val (.int p0), .val (.int p1), .val (.int p2), .val (.int (1 : Int32)), .unset, .unset, .unset, .unset, .unset, .unset]) rfl (pc' := 4) rfl ?_
        refine Jvm.OwnWp.iconst K (1 : Int32) at_4 (by decide) (pc' := 5) rfl ?_
        refine Jvm.OwnWp.iloadN K at_5 rfl (pc' := 6) rfl ?_
        refine Jvm.OwnWp.isub K at_6 (pc' := 7) rfl ?_
        rw [show (1 : Int32) - 1 = 0 by decide]
        refine Jvm.OwnWp.istore K at_7 (Ls' := #[.val (.int p0), .val (.int p1), .val (.int p2), .val (.int (1 : Int32)), .val (.int (0 : Int32)), .unset, .unset, .unset, .unset, .unset]) rfl (pc' := 9) rfl ?_
        refine Jvm.OwnWp.iconst K (1 : Int32) at_9 (by decide) (pc' := 10) rfl ?_
        refine Jvm.OwnWp.iloadN K at_10 rfl (pc' := 11) rfl ?_
        refine Jvm.OwnWp.ldcI K (wd0 hw) at_11 (pc' := 13) rfl ?_
        refine Jvm.OwnWp.iand K at_13 (pc' := 14) rfl ?_
        refine Jvm.OwnWp.iconst K (3 : Int32) at_14 (by decide) (pc' := 15) rfl ?_
        refine Jvm.OwnWp.irem K at_15 (by decide) (pc' := 16) rfl ?_
        rw [qm]
        refine Jvm.OwnWp.iadd K at_16 (pc' := 17) rfl ?_
        rw [show (1 : Int32) + 0 = 1 by decide]
        refine Jvm.OwnWp.istore K at_17 (Ls' := #[.val (.int p0), .val (.int p1), .val (.int p2), .val (.int (1 : Int32)), .val (.int (0 : Int32)), .val (.int (1 : Int32)), .unset, .unset, .unset, .unset]) rfl (pc' := 19) rfl ?_
        refine Jvm.OwnWp.iloadN K at_19 rfl (pc' := 20) rfl ?_
        refine Jvm.OwnWp.ldcI K (wd0 hw) at_20 (pc' := 22) rfl ?_
        refine Jvm.OwnWp.iand K at_22 (pc' := 23) rfl ?_
        refine Jvm.OwnWp.iconst K (5 : Int32) at_23 (by decide) (pc' := 24) rfl ?_
        refine Jvm.OwnWp.irem K at_24 (by decide) (pc' := 25) rfl ?_
        rw [qk]
        refine Jvm.OwnWp.istore K at_25 (Ls' := #[.val (.int p0), .val (.int p1), .val (.int p2), .val (.int (1 : Int32)), .val (.int (0 : Int32)), .val (.int (1 : Int32)), .val (.int (0 : Int32)), .unset, .unset, .unset]) rfl (pc' := 27) rfl ?_
        refine newObj K (wd1 hw) (wd2 hw) (wd3 hw) at_27 (by decide) (by decide) (pc' := 30) rfl ?_
        intro h146 b146 g146 E146 A146 D146
        have lt_b146 : h0.size ≤ b146 := Nat.le_trans P0.1 (Nat.le_of_eq g146.symm)
        have ge_b146 : n0 ≤ b146 := Nat.le_trans Z0 lt_b146
        have P146 := (P0.ext E146)
        have F146_gain_b146 : Fld Z h146 b146 "com/example/sightline/sightline/checker/ByActivity" "gain" "D" (.double (0 : UInt64)) := D146 (Or.inl (wd11 hw)) (ty := .double) (by decide)
        have F146_choices_b146 : Fld Z h146 b146 "com/example/sightline/sightline/checker/ByActivity" "choices" "I" (.int (0 : Int32)) := D146 (Or.inr (wd13 hw)) (ty := .int) (by decide)
        have F146_activity_b146 : Fld Z h146 b146 "com/example/sightline/sightline/checker/ByActivity" "activity" "[D" .null := D146 (Or.inl (wd24 hw)) (ty := (.array .double)) (by decide)
        have F146_heap_b146 : Fld Z h146 b146 "com/example/sightline/sightline/checker/ByActivity" "heap" "[I" .null := D146 (Or.inl (wd28 hw)) (ty := (.array .int)) (by decide)
        have F146_slot_b146 : Fld Z h146 b146 "com/example/sightline/sightline/checker/ByActivity" "slot" "[I" .null := D146 (Or.inl (wd30 hw)) (ty := (.array .int)) (by decide)
        have F146_count_b146 : Fld Z h146 b146 "com/example/sightline/sightline/checker/ByActivity" "count" "I" (.int (0 : Int32)) := D146 (Or.inl (wd42 hw)) (ty := .int) (by decide)
        refine Jvm.OwnWp.dup K at_30 rfl (pc' := 31) rfl ?_
        refine Jvm.OwnWp.iconst K (2 : Int32) at_31 (by decide) (pc' := 32) rfl ?_
        refine callInit K (y := (⟨"com/example/sightline/sightline/checker/ByActivity", "<init>", "(I)V"⟩ : MethodName)) (b := b146) (argsL := [(.int (2 : Int32))]) (S := [(.ref b146)]) rfl (wd4 hw) (wd5 hw) (wd3 hw) (wd6 hw) rfl (by decide) (c_init l Z a0 hw [] b146 2 h146 n0 (Nat.le_trans Z0 P146.1) A146 ge_b146 F146_gain_b146 F146_choices_b146 F146_activity_b146 F146_heap_b146 F146_slot_b146 F146_count_b146) (lenOf pd1 rfl) at_32 rfl (Nat.le_of_ble_eq_true rfl) (Nat.le_of_ble_eq_true rfl) (Nat.le_of_ble_eq_true rfl) (Nat.le_of_ble_eq_true rfl) rfl (pc' := 35) rfl ?_
        rintro v147 h147 ⟨rfl, K147, I147_gain, I147_choices, I147_activity, I147_heap, I147_slot, I147_count⟩
        have X147_b146 := (Exa.keep A146 K147)
        have P147 := (P146.trans K147 (allS (Or.inr lt_b146) (all0)))
        show Go _ _ _ _ _ _ _ _ _ _ _ h147 1 6 (mkF m 35 #[.val (.int p0), .val (.int p1), .val (.int p2), .val (.int (1 : Int32)), .val (.int (0 : Int32)), .val (.int (1 : Int32)), .val (.int (0 : Int32)), .unset, .unset, .unset] [(.ref b146)]) _
        refine Jvm.OwnWp.astore K at_35 rfl (Ls' := #[.val (.int p0), .val (.int p1), .val (.int p2), .val (.int (1 : Int32)), .val (.int (0 : Int32)), .val (.int (1 : Int32)), .val (.int (0 : Int32)), .val (.ref b146), .unset, .unset]) rfl (pc' := 37) rfl ?_
        refine Jvm.OwnWp.aload K at_37 rfl rfl (pc' := 39) rfl ?_
        refine Jvm.OwnWp.iloadN K at_39 rfl (pc' := 40) rfl ?_
        refine Jvm.OwnWp.iload K at_40 rfl (pc' := 42) rfl ?_
        refine callStatic K (y := (⟨"com/example/sightline/sightline/checker/ByActivityDecayPinLaw", "bumps", "(Lcom/example/sightline/sightline/checker/ByActivity;II)V"⟩ : MethodName)) (argsL := [(.ref b146), (.int (1 : Int32)), (.int (1 : Int32))]) (S := []) (wd14 hw) (wd15 hw) (wd16 hw) (wd17 hw) (by decide) (c_b11 l Z a0 hw [] b146 h147 n0 (Nat.le_trans Z0 P147.1) X147_b146 I147_activity I147_heap I147_slot I147_count I147_gain I147_choices ge_b146) (lenOf pd4 rfl) at_42 rfl (Nat.le_of_ble_eq_true rfl) (Nat.le_of_ble_eq_true rfl) (Nat.le_of_ble_eq_true rfl) (Nat.le_of_ble_eq_true rfl) rfl (pc' := 45) rfl ?_
        rintro v148 h148 ⟨rfl, K148, ka, ha, sa, Hl, Sl, zk, zh, zs, ne_ha_ka, ne_sa_ka, ne_sa_ha, wf, rt, Q148_E, Q148_F_act, Q148_F_heap, Q148_F_slot, Q148_F_count, Q148_F_gain, Q148_F_choices, Q148_VA, Q148_VH, Q148_VS⟩
        have ne_b146_ka : b146 ≠ ka := Nat.ne_of_lt (Nat.lt_of_lt_of_le (Exa.lt X147_b146) zk)
        have lt_ka : h0.size ≤ ka := Nat.le_trans P147.1 zk
        have ge_ka : n0 ≤ ka := Nat.le_trans Z0 lt_ka
        have ne_b146_ha : b146 ≠ ha := Nat.ne_of_lt (Nat.lt_of_lt_of_le (Exa.lt X147_b146) zh)
        have lt_ha : h0.size ≤ ha := Nat.le_trans P147.1 zh
        have ge_ha : n0 ≤ ha := Nat.le_trans Z0 lt_ha
        have ne_b146_sa : b146 ≠ sa := Nat.ne_of_lt (Nat.lt_of_lt_of_le (Exa.lt X147_b146) zs)
        have lt_sa : h0.size ≤ sa := Nat.le_trans P147.1 zs
        have ge_sa : n0 ≤ sa := Nat.le_trans Z0 lt_sa
        have X148_b146 := (Exa.keep X147_b146 K148)
        have P148 := (P147.trans K148 (allS (Or.inr lt_b146) (all0)))
        show Go _ _ _ _ _ _ _ _ _ _ _ h148 4 21 (mkF m 45 #[.val (.int p0), .val (.int p1), .val (.int p2), .val (.int (1 : Int32)), .val (.int (0 : Int32)), .val (.int (1 : Int32)), .val (.int (0 : Int32)), .val (.ref b146), .unset, .unset] []) _
        refine Jvm.OwnWp.aload K at_45 rfl rfl (pc' := 47) rfl ?_
        refine Jvm.OwnWp.iload K at_47 rfl (pc' := 49) rfl ?_
        refine callStatic K (y := (⟨"com/example/sightline/sightline/checker/ByActivityDecayPinLaw", "decays", "(Lcom/example/sightline/sightline/checker/ByActivity;I)V"⟩ : MethodName)) (argsL := [(.ref b146), (.int (0 : Int32))]) (S := []) (wd51 hw) (wd52 hw) (wd16 hw) (wd53 hw) (by decide) (c_dec0 l Z a0 hw [] b146 ka ha sa h148 n0 (Nat.le_trans Z0 P148.1) Q148_E Q148_F_act Q148_F_heap Q148_F_slot Q148_F_count Q148_F_gain Q148_F_choices ge_b146) (lenOf pd5 rfl) at_49 rfl (Nat.le_of_ble_eq_true rfl) (Nat.le_of_ble_eq_true rfl) (Nat.le_of_ble_eq_true rfl) (Nat.le_of_ble_eq_true rfl) rfl (pc' := 52) rfl ?_
        rintro v149 h149 ⟨rfl, K149, Q149_F_act, Q149_F_heap, Q149_F_slot, Q149_F_count, Q149_F_gain, Q149_F_choices⟩
        have X149_b146 := (Exa.keep Q148_E K149)
        have V149_ka := (Q148_VA.keep K149 (ninS (Ne.symm ne_b146_ka) (nin0)))
        have V149_ha := (Q148_VH.keep K149 (ninS (Ne.symm ne_b146_ha) (nin0)))
        have V149_sa := (Q148_VS.keep K149 (ninS (Ne.symm ne_b146_sa) (nin0)))
        have P149 := (P148.trans K149 (allS (Or.inr lt_b146) (all0)))
        show Go _ _ _ _ _ _ _ _ _ _ _ h149 4 21 (mkF m 52 #[.val (.int p0), .val (.int p1), .val (.int p2), .val (.int (1 : Int32)), .val (.int (0 : Int32)), .val (.int (1 : Int32)), .val (.int (0 : Int32)), .val (.ref b146), .unset, .unset] []) _
        refine Jvm.OwnWp.aload K at_52 rfl rfl (pc' := 54) rfl ?_
        refine Jvm.OwnWp.iload K at_54 rfl (pc' := 56) rfl ?_
        refine callVirt K (y := (⟨"com/example/sightline/sightline/checker/ByActivity", "bump", "(I)V"⟩ : MethodName)) (b := b146) (argsL := [(.int (0 : Int32))]) (S := []) (wd18 hw) (wd19 hw) (wd21 hw) (wd20 hw) (wd3 hw) (wd22 hw) (by decide) X149_b146 (c_bumpN l Z a0 hw [] b146 ka ha sa 2 1 4607182418800017408 [0, 4607182418800017408] Hl Sl 0 h149 n0 (Nat.le_trans Z0 P149.1) rfl wf.1 wf.2.1 (by decide) (by decide) wf.2.2.2.1 (by decide) (by decide) (Jvm.Free.Fl.val64_no.mpr (by decide +kernel)) (by decide +kernel) (abs1 wf rt (by decide) (by decide)) X149_b146 Q149_F_act Q149_F_heap Q149_F_slot Q149_F_count Q149_F_gain Q149_F_choices V149_ka V149_ha V149_sa (Ne.symm ne_b146_ka) (Ne.symm ne_b146_ha) (Ne.symm ne_b146_sa) ne_ha_ka ne_sa_ka ne_sa_ha ge_b146 ge_ka ge_ha ge_sa) (lenOf pd1 rfl) at_56 rfl (Nat.le_of_ble_eq_true rfl) (Nat.le_of_ble_eq_true rfl) (Nat.le_of_ble_eq_true rfl) (Nat.le_of_ble_eq_true rfl) rfl (pc' := 59) rfl ?_
        rintro v150 h150 ⟨rfl, K150, Q150_E, Q150_F_act, Q150_F_heap, Q150_F_slot, Q150_F_count, Q150_F_gain, Q150_F_choices, Q150_VA, Q150_VH, Q150_VS⟩
        have X150_b146 := (Exa.keep X149_b146 K150)
        have P150 := (P149.trans K150 (allS (Or.inr lt_b146) (allS (Or.inr lt_ka) (allS (Or.inr lt_ha) (allS (Or.inr lt_sa) (all0))))))
        show Go _ _ _ _ _ _ _ _ _ _ _ h150 4 21 (mkF m 59 #[.val (.int p0), .val (.int p1), .val (.int p2), .val (.int (1 : Int32)), .val (.int (0 : Int32)), .val (.int (1 : Int32)), .val (.int (0 : Int32)), .val (.ref b146), .unset, .unset] []) _
        rw [show ([0, 4607182418800017408].set 0 (FP.dadd ([0, 4607182418800017408].getD 0 0) 4607182418800017408)) = [4607182418800017408, 4607182418800017408] from (by decide +kernel)] at Q150_VA Q150_VH Q150_VS
        have hA2 : Nums [4607182418800017408, 4607182418800017408] := nums2 (by unfold Jvm.OwnHeap.Num; decide +kernel) (by unfold Jvm.OwnHeap.Num; decide +kernel)
        have wf2 := (push_spec (by decide) hA2 wf ord1 (by decide) (by decide : 0 < 2) (abs1 wf rt (by decide) (by decide))).1
        have rt2 := push_root (A := [4607182418800017408, 4607182418800017408]) (c := 0) (S := Sl) wf.1 rt
        rw [if_neg (by decide +kernel)] at rt2
        generalize pushB [4607182418800017408, 4607182418800017408] 0 Hl Sl 1 = U150 at *
        have Q150_F_count : Fld Z h150 b146 "com/example/sightline/sightline/checker/ByActivity" "count" "I" (.int (Int32.ofNat 2)) := Q150_F_count
        refine Jvm.OwnWp.iload K at_59 rfl (pc' := 61) rfl ?_
        refine Jvm.OwnWp.iconst K (1 : Int32) at_61 (by decide) (pc' := 62) rfl ?_
        refine icN K at_62 (by decide) (pc' := 65) rfl ?_
        refine Jvm.OwnWp.iload K at_65 rfl (pc' := 67) rfl ?_
        refine Jvm.OwnWp.iconst K (1 : Int32) at_67 (by decide) (pc' := 68) rfl ?_
        refine icN K at_68 (by decide) (pc' := 71) rfl ?_
        refine Jvm.OwnWp.iload K at_71 rfl (pc' := 73) rfl ?_
        refine Jvm.OwnWp.iconst K (2 : Int32) at_73 (by decide) (pc' := 74) rfl ?_
        refine icY K at_74 (by decide) (pc' := 83) (by decide) (by decide) ?_
        refine Jvm.OwnWp.iload K at_83 rfl (pc' := 85) rfl ?_
        refine Jvm.OwnWp.iconst K (3 : Int32) at_85 (by decide) (pc' := 86) rfl ?_
        refine icY K at_86 (by decide) (pc' := 99) (by decide) (by decide) ?_
        refine Jvm.OwnWp.iconst K (0 : Int32) at_99 (by decide) (pc' := 100) rfl ?_
        refine Jvm.OwnWp.istore K at_100 (Ls' := #[.val (.int p0), .val (.int p1), .val (.int p2), .val (.int (1 : Int32)), .val (.int (0 : Int32)), .val (.int (1 : Int32)), .val (.int (0 : Int32)), .val (.ref b146), .val (.int (0 : Int32)), .unset]) rfl (pc' := 102) rfl ?_
        refine Jvm.OwnWp.iload K at_102 rfl (pc' := 104) rfl ?_
        refine ifY K at_104 (by decide) (pc' := 112) (by decide) (by decide) ?_
        refine Jvm.OwnWp.iloadN K at_112 rfl (pc' := 113) rfl ?_
        refine Jvm.OwnWp.istore K at_113 (Ls' := #[.val (.int p0), .val (.int p1), .val (.int p2), .val (.int (1 : Int32)), .val (.int (0 : Int32)), .val (.int (1 : Int32)), .val (.int (0 : Int32)), .val (.ref b146), .val (.int (0 : Int32)), .val (.int (1 : Int32))]) rfl (pc' := 115) rfl ?_
        refine Jvm.OwnWp.aload K at_115 rfl rfl (pc' := 117) rfl ?_
        refine callVirt K (y := (⟨"com/example/sightline/sightline/checker/ByActivity", "pop", "()I"⟩ : MethodName)) (b := b146) (argsL := []) (S := []) (wd60 hw) (wd61 hw) (wd63 hw) (wd62 hw) (wd3 hw) (wd64 hw) (by decide) Q150_E (c_pop l Z a0 hw [] b146 ka ha sa 2 2 4607182418800017408 [4607182418800017408, 4607182418800017408] U150.1 U150.2 h150 n0 (Nat.le_trans Z0 P150.1) rfl wf2.1 wf2.2.1 (by decide) (by decide) wf2.2.2.2.1 (by decide) (by decide) Q150_E Q150_F_act Q150_F_heap Q150_F_slot Q150_F_count Q150_F_gain Q150_F_choices Q150_VA Q150_VH Q150_VS (Ne.symm ne_b146_ka) (Ne.symm ne_b146_ha) (Ne.symm ne_b146_sa) ne_ha_ka ne_sa_ka ne_sa_ha ge_b146 ge_ka ge_ha ge_sa) (lenOf pd6 rfl) at_117 rfl (Nat.le_of_ble_eq_true rfl) (Nat.le_of_ble_eq_true rfl) (Nat.le_of_ble_eq_true rfl) (Nat.le_of_ble_eq_true rfl) rfl (pc' := 120) rfl ?_
        rintro v151 h151 ⟨rfl, K151, Q151_E, Q151_F_act, Q151_F_heap, Q151_F_slot, Q151_F_count, Q151_F_gain, Q151_F_choices, Q151_VA, Q151_VH, Q151_VS⟩
        have X151_b146 := (Exa.keep Q150_E K151)
        have V151_ka := (Q150_VA.keep K151 (ninS (Ne.symm ne_b146_ka) (ninS (Ne.symm ne_ha_ka) (ninS (Ne.symm ne_sa_ka) (nin0)))))
        have P151 := (P150.trans K151 (allS (Or.inr lt_b146) (allS (Or.inr lt_ha) (allS (Or.inr lt_sa) (all0)))))
        show Go _ _ _ _ _ _ _ _ _ _ _ h151 4 21 (mkF m 120 #[.val (.int p0), .val (.int p1), .val (.int p2), .val (.int (1 : Int32)), .val (.int (0 : Int32)), .val (.int (1 : Int32)), .val (.int (0 : Int32)), .val (.ref b146), .val (.int (0 : Int32)), .val (.int (1 : Int32))] [(.int (Int32.ofNat (U150.1.getD 0 0)))]) _
        rw [rt2, show Int32.ofNat 1 = 1 from rfl]
        refine Jvm.OwnWp.iload K at_120 rfl (pc' := 122) rfl ?_
        refine icN K at_122 (by decide) (pc' := 125) rfl ?_
        refine Jvm.OwnWp.iconst K (1 : Int32) at_125 (by decide) (pc' := 126) rfl ?_
        refine goto' K at_126 (pc' := 130) (by decide) (by decide) ?_
        refine retB K (t := .boolean) rfl (by simp) at_130 (Nat.le_of_ble_eq_true rfl) (Nat.le_of_ble_eq_true rfl) ?_
        rfl
      · refine Jvm.OwnWp.iloadN K at_0 rfl (pc' := 1) rfl ?_
        refine Jvm.OwnWp.iconst K (1 : Int32) at_1 (by decide) (pc' := 2) rfl ?_
        refine Jvm.OwnWp.iand K at_2 (pc' := 3) rfl ?_
        rw [qa]
        refine Jvm.OwnWp.istoreN K at_3 (Ls' := #[.val (.int p0), .val (.int p1), .val (.int p2), .val (.int (1 : Int32)), .unset, .unset, .unset, .unset, .unset, .unset]) rfl (pc' := 4) rfl ?_
        refine Jvm.OwnWp.iconst K (1 : Int32) at_4 (by decide) (pc' := 5) rfl ?_
        refine Jvm.OwnWp.iloadN K at_5 rfl (pc' := 6) rfl ?_
        refine Jvm.OwnWp.isub K at_6 (pc' := 7) rfl ?_
        rw [show (1 : Int32) - 1 = 0 by decide]
        refine Jvm.OwnWp.istore K at_7 (Ls' := #[.val (.int p0), .val (.int p1), .val (.int p2), .val (.int (1 : Int32)), .val (.int (0 : Int32)), .unset, .unset, .unset, .unset, .unset]) rfl (pc' := 9) rfl ?_
        refine Jvm.OwnWp.iconst K (1 : Int32) at_9 (by decide) (pc' := 10) rfl ?_
        refine Jvm.OwnWp.iloadN K at_10 rfl (pc' := 11) rfl ?_
        refine Jvm.OwnWp.ldcI K (wd0 hw) at_11 (pc' := 13) rfl ?_
        refine Jvm.OwnWp.iand K at_13 (pc' := 14) rfl ?_
        refine Jvm.OwnWp.iconst K (3 : Int32) at_14 (by decide) (pc' := 15) rfl ?_
        refine Jvm.OwnWp.irem K at_15 (by decide) (pc' := 16) rfl ?_
        rw [qm]
        refine Jvm.OwnWp.iadd K at_16 (pc' := 17) rfl ?_
        rw [show (1 : Int32) + 0 = 1 by decide]
        refine Jvm.OwnWp.istore K at_17 (Ls' := #[.val (.int p0), .val (.int p1), .val (.int p2), .val (.int (1 : Int32)), .val (.int (0 : Int32)), .val (.int (1 : Int32)), .unset, .unset, .unset, .unset]) rfl (pc' := 19) rfl ?_
        refine Jvm.OwnWp.iloadN K at_19 rfl (pc' := 20) rfl ?_
        refine Jvm.OwnWp.ldcI K (wd0 hw) at_20 (pc' := 22) rfl ?_
        refine Jvm.OwnWp.iand K at_22 (pc' := 23) rfl ?_
        refine Jvm.OwnWp.iconst K (5 : Int32) at_23 (by decide) (pc' := 24) rfl ?_
        refine Jvm.OwnWp.irem K at_24 (by decide) (pc' := 25) rfl ?_
        rw [qk]
        refine Jvm.OwnWp.istore K at_25 (Ls' := #[.val (.int p0), .val (.int p1), .val (.int p2), .val (.int (1 : Int32)), .val (.int (0 : Int32)), .val (.int (1 : Int32)), .val (.int (1 : Int32)), .unset, .unset, .unset]) rfl (pc' := 27) rfl ?_
        refine newObj K (wd1 hw) (wd2 hw) (wd3 hw) at_27 (by decide) (by decide) (pc' := 30) rfl ?_
        intro h152 b152 g152 E152 A152 D152
        have lt_b152 : h0.size ≤ b152 := Nat.le_trans P0.1 (Nat.le_of_eq g152.symm)
        have ge_b152 : n0 ≤ b152 := Nat.le_trans Z0 lt_b152
        have P152 := (P0.ext E152)
        have F152_gain_b152 : Fld Z h152 b152 "com/example/sightline/sightline/checker/ByActivity" "gain" "D" (.double (0 : UInt64)) := D152 (Or.inl (wd11 hw)) (ty := .double) (by decide)
        have F152_choices_b152 : Fld Z h152 b152 "com/example/sightline/sightline/checker/ByActivity" "choices" "I" (.int (0 : Int32)) := D152 (Or.inr (wd13 hw)) (ty := .int) (by decide)
        have F152_activity_b152 : Fld Z h152 b152 "com/example/sightline/sightline/checker/ByActivity" "activity" "[D" .null := D152 (Or.inl (wd24 hw)) (ty := (.array .double)) (by decide)
        have F152_heap_b152 : Fld Z h152 b152 "com/example/sightline/sightline/checker/ByActivity" "heap" "[I" .null := D152 (Or.inl (wd28 hw)) (ty := (.array .int)) (by decide)
        have F152_slot_b152 : Fld Z h152 b152 "com/example/sightline/sightline/checker/ByActivity" "slot" "[I" .null := D152 (Or.inl (wd30 hw)) (ty := (.array .int)) (by decide)
        have F152_count_b152 : Fld Z h152 b152 "com/example/sightline/sightline/checker/ByActivity" "count" "I" (.int (0 : Int32)) := D152 (Or.inl (wd42 hw)) (ty := .int) (by decide)
        refine Jvm.OwnWp.dup K at_30 rfl (pc' := 31) rfl ?_
        refine Jvm.OwnWp.iconst K (2 : Int32) at_31 (by decide) (pc' := 32) rfl ?_
        refine callInit K (y := (⟨"com/example/sightline/sightline/checker/ByActivity", "<init>", "(I)V"⟩ : MethodName)) (b := b152) (argsL := [(.int (2 : Int32))]) (S := [(.ref b152)]) rfl (wd4 hw) (wd5 hw) (wd3 hw) (wd6 hw) rfl (by decide) (c_init l Z a0 hw [] b152 2 h152 n0 (Nat.le_trans Z0 P152.1) A152 ge_b152 F152_gain_b152 F152_choices_b152 F152_activity_b152 F152_heap_b152 F152_slot_b152 F152_count_b152) (lenOf pd1 rfl) at_32 rfl (Nat.le_of_ble_eq_true rfl) (Nat.le_of_ble_eq_true rfl) (Nat.le_of_ble_eq_true rfl) (Nat.le_of_ble_eq_true rfl) rfl (pc' := 35) rfl ?_
        rintro v153 h153 ⟨rfl, K153, I153_gain, I153_choices, I153_activity, I153_heap, I153_slot, I153_count⟩
        have X153_b152 := (Exa.keep A152 K153)
        have P153 := (P152.trans K153 (allS (Or.inr lt_b152) (all0)))
        show Go _ _ _ _ _ _ _ _ _ _ _ h153 1 6 (mkF m 35 #[.val (.int p0), .val (.int p1), .val (.int p2), .val (.int (1 : Int32)), .val (.int (0 : Int32)), .val (.int (1 : Int32)), .val (.int (1 : Int32)), .unset, .unset, .unset] [(.ref b152)]) _
        refine Jvm.OwnWp.astore K at_35 rfl (Ls' := #[.val (.int p0), .val (.int p1), .val (.int p2), .val (.int (1 : Int32)), .val (.int (0 : Int32)), .val (.int (1 : Int32)), .val (.int (1 : Int32)), .val (.ref b152), .unset, .unset]) rfl (pc' := 37) rfl ?_
        refine Jvm.OwnWp.aload K at_37 rfl rfl (pc' := 39) rfl ?_
        refine Jvm.OwnWp.iloadN K at_39 rfl (pc' := 40) rfl ?_
        refine Jvm.OwnWp.iload K at_40 rfl (pc' := 42) rfl ?_
        refine callStatic K (y := (⟨"com/example/sightline/sightline/checker/ByActivityDecayPinLaw", "bumps", "(Lcom/example/sightline/sightline/checker/ByActivity;II)V"⟩ : MethodName)) (argsL := [(.ref b152), (.int (1 : Int32)), (.int (1 : Int32))]) (S := []) (wd14 hw) (wd15 hw) (wd16 hw) (wd17 hw) (by decide) (c_b11 l Z a0 hw [] b152 h153 n0 (Nat.le_trans Z0 P153.1) X153_b152 I153_activity I153_heap I153_slot I153_count I153_gain I153_choices ge_b152) (lenOf pd4 rfl) at_42 rfl (Nat.le_of_ble_eq_true rfl) (Nat.le_of_ble_eq_true rfl) (Nat.le_of_ble_eq_true rfl) (Nat.le_of_ble_eq_true rfl) rfl (pc' := 45) rfl ?_
        rintro v154 h154 ⟨rfl, K154, ka, ha, sa, Hl, Sl, zk, zh, zs, ne_ha_ka, ne_sa_ka, ne_sa_ha, wf, rt, Q154_E, Q154_F_act, Q154_F_heap, Q154_F_slot, Q154_F_count, Q154_F_gain, Q154_F_choices, Q154_VA, Q154_VH, Q154_VS⟩
        have ne_b152_ka : b152 ≠ ka := Nat.ne_of_lt (Nat.lt_of_lt_of_le (Exa.lt X153_b152) zk)
        have lt_ka : h0.size ≤ ka := Nat.le_trans P153.1 zk
        have ge_ka : n0 ≤ ka := Nat.le_trans Z0 lt_ka
        have ne_b152_ha : b152 ≠ ha := Nat.ne_of_lt (Nat.lt_of_lt_of_le (Exa.lt X153_b152) zh)
        have lt_ha : h0.size ≤ ha := Nat.le_trans P153.1 zh
        have ge_ha : n0 ≤ ha := Nat.le_trans Z0 lt_ha
        have ne_b152_sa : b152 ≠ sa := Nat.ne_of_lt (Nat.lt_of_lt_of_le (Exa.lt X153_b152) zs)
        have lt_sa : h0.size ≤ sa := Nat.le_trans P153.1 zs
        have ge_sa : n0 ≤ sa := Nat.le_trans Z0 lt_sa
        have X154_b152 := (Exa.keep X153_b152 K154)
        have P154 := (P153.trans K154 (allS (Or.inr lt_b152) (all0)))
        show Go _ _ _ _ _ _ _ _ _ _ _ h154 4 21 (mkF m 45 #[.val (.int p0), .val (.int p1), .val (.int p2), .val (.int (1 : Int32)), .val (.int (0 : Int32)), .val (.int (1 : Int32)), .val (.int (1 : Int32)), .val (.ref b152), .unset, .unset] []) _
        refine Jvm.OwnWp.aload K at_45 rfl rfl (pc' := 47) rfl ?_
        refine Jvm.OwnWp.iload K at_47 rfl (pc' := 49) rfl ?_
        refine callStatic K (y := (⟨"com/example/sightline/sightline/checker/ByActivityDecayPinLaw", "decays", "(Lcom/example/sightline/sightline/checker/ByActivity;I)V"⟩ : MethodName)) (argsL := [(.ref b152), (.int (1 : Int32))]) (S := []) (wd51 hw) (wd52 hw) (wd16 hw) (wd53 hw) (by decide) (c_dec1 l Z a0 hw [] b152 ka ha sa h154 n0 (Nat.le_trans Z0 P154.1) Q154_E Q154_F_act Q154_F_heap Q154_F_slot Q154_F_count Q154_F_gain Q154_F_choices ge_b152) (lenOf pd5 rfl) at_49 rfl (Nat.le_of_ble_eq_true rfl) (Nat.le_of_ble_eq_true rfl) (Nat.le_of_ble_eq_true rfl) (Nat.le_of_ble_eq_true rfl) rfl (pc' := 52) rfl ?_
        rintro v155 h155 ⟨rfl, K155, Q155_F_act, Q155_F_heap, Q155_F_slot, Q155_F_count, Q155_F_gain, Q155_F_choices⟩
        have X155_b152 := (Exa.keep Q154_E K155)
        have V155_ka := (Q154_VA.keep K155 (ninS (Ne.symm ne_b152_ka) (nin0)))
        have V155_ha := (Q154_VH.keep K155 (ninS (Ne.symm ne_b152_ha) (nin0)))
        have V155_sa := (Q154_VS.keep K155 (ninS (Ne.symm ne_b152_sa) (nin0)))
        have P155 := (P154.trans K155 (allS (Or.inr lt_b152) (all0)))
        show Go _ _ _ _ _ _ _ _ _ _ _ h155 4 21 (mkF m 52 #[.val (.int p0), .val (.int p1), .val (.int p2), .val (.int (1 : Int32)), .val (.int (0 : Int32)), .val (.int (1 : Int32)), .val (.int (1 : Int32)), .val (.ref b152), .unset, .unset] []) _
        refine Jvm.OwnWp.aload K at_52 rfl rfl (pc' := 54) rfl ?_
        refine Jvm.OwnWp.iload K at_54 rfl (pc' := 56) rfl ?_
        refine callVirt K (y := (⟨"com/example/sightline/sightline/checker/ByActivity", "bump", "(I)V"⟩ : MethodName)) (b := b152) (argsL := [(.int (0 : Int32))]) (S := []) (wd18 hw) (wd19 hw) (wd21 hw) (wd20 hw) (wd3 hw) (wd22 hw) (by decide) X155_b152 (c_bumpN l Z a0 hw [] b152 ka ha sa 2 1 4609112532926033335 [0, 4607182418800017408] Hl Sl 0 h155 n0 (Nat.le_trans Z0 P155.1) rfl wf.1 wf.2.1 (by decide) (by decide) wf.2.2.2.1 (by decide) (by decide) (Jvm.Free.Fl.val64_no.mpr (by decide +kernel)) (by decide +kernel) (abs1 wf rt (by decide) (by decide)) X155_b152 Q155_F_act Q155_F_heap Q155_F_slot Q155_F_count Q155_F_gain Q155_F_choices V155_ka V155_ha V155_sa (Ne.symm ne_b152_ka) (Ne.symm ne_b152_ha) (Ne.symm ne_b152_sa) ne_ha_ka ne_sa_ka ne_sa_ha ge_b152 ge_ka ge_ha ge_sa) (lenOf pd1 rfl) at_56 rfl (Nat.le_of_ble_eq_true rfl) (Nat.le_of_ble_eq_true rfl) (Nat.le_of_ble_eq_true rfl) (Nat.le_of_ble_eq_true rfl) rfl (pc' := 59) rfl ?_
        rintro v156 h156 ⟨rfl, K156, Q156_E, Q156_F_act, Q156_F_heap, Q156_F_slot, Q156_F_count, Q156_F_gain, Q156_F_choices, Q156_VA, Q156_VH, Q156_VS⟩
        have X156_b152 := (Exa.keep X155_b152 K156)
        have P156 := (P155.trans K156 (allS (Or.inr lt_b152) (allS (Or.inr lt_ka) (allS (Or.inr lt_ha) (allS (Or.inr lt_sa) (all0))))))
        show Go _ _ _ _ _ _ _ _ _ _ _ h156 4 21 (mkF m 59 #[.val (.int p0), .val (.int p1), .val (.int p2), .val (.int (1 : Int32)), .val (.int (0 : Int32)), .val (.int (1 : Int32)), .val (.int (1 : Int32)), .val (.ref b152), .unset, .unset] []) _
        rw [show ([0, 4607182418800017408].set 0 (FP.dadd ([0, 4607182418800017408].getD 0 0) 4609112532926033335)) = [4609112532926033335, 4607182418800017408] from (by decide +kernel)] at Q156_VA Q156_VH Q156_VS
        have hA2 : Nums [4609112532926033335, 4607182418800017408] := nums2 (by unfold Jvm.OwnHeap.Num; decide +kernel) (by unfold Jvm.OwnHeap.Num; decide +kernel)
        have wf2 := (push_spec (by decide) hA2 wf ord1 (by decide) (by decide : 0 < 2) (abs1 wf rt (by decide) (by decide))).1
        have rt2 := push_root (A := [4609112532926033335, 4607182418800017408]) (c := 0) (S := Sl) wf.1 rt
        rw [if_pos (by decide +kernel)] at rt2
        generalize pushB [4609112532926033335, 4607182418800017408] 0 Hl Sl 1 = U156 at *
        have Q156_F_count : Fld Z h156 b152 "com/example/sightline/sightline/checker/ByActivity" "count" "I" (.int (Int32.ofNat 2)) := Q156_F_count
        refine Jvm.OwnWp.iload K at_59 rfl (pc' := 61) rfl ?_
        refine Jvm.OwnWp.iconst K (1 : Int32) at_61 (by decide) (pc' := 62) rfl ?_
        refine icN K at_62 (by decide) (pc' := 65) rfl ?_
        refine Jvm.OwnWp.iload K at_65 rfl (pc' := 67) rfl ?_
        refine Jvm.OwnWp.iconst K (1 : Int32) at_67 (by decide) (pc' := 68) rfl ?_
        refine icY K at_68 (by decide) (pc' := 95) (by decide) (by decide) ?_
        refine Jvm.OwnWp.iconst K (1 : Int32) at_95 (by decide) (pc' := 96) rfl ?_
        refine goto' K at_96 (pc' := 100) (by decide) (by decide) ?_
        refine Jvm.OwnWp.istore K at_100 (Ls' := #[.val (.int p0), .val (.int p1), .val (.int p2), .val (.int (1 : Int32)), .val (.int (0 : Int32)), .val (.int (1 : Int32)), .val (.int (1 : Int32)), .val (.ref b152), .val (.int (1 : Int32)), .unset]) rfl (pc' := 102) rfl ?_
        refine Jvm.OwnWp.iload K at_102 rfl (pc' := 104) rfl ?_
        refine ifN K at_104 (by decide) (pc' := 107) rfl ?_
        refine Jvm.OwnWp.iload K at_107 rfl (pc' := 109) rfl ?_
        refine goto' K at_109 (pc' := 113) (by decide) (by decide) ?_
        refine Jvm.OwnWp.istore K at_113 (Ls' := #[.val (.int p0), .val (.int p1), .val (.int p2), .val (.int (1 : Int32)), .val (.int (0 : Int32)), .val (.int (1 : Int32)), .val (.int (1 : Int32)), .val (.ref b152), .val (.int (1 : Int32)), .val (.int (0 : Int32))]) rfl (pc' := 115) rfl ?_
        refine Jvm.OwnWp.aload K at_115 rfl rfl (pc' := 117) rfl ?_
        refine callVirt K (y := (⟨"com/example/sightline/sightline/checker/ByActivity", "pop", "()I"⟩ : MethodName)) (b := b152) (argsL := []) (S := []) (wd60 hw) (wd61 hw) (wd63 hw) (wd62 hw) (wd3 hw) (wd64 hw) (by decide) Q156_E (c_pop l Z a0 hw [] b152 ka ha sa 2 2 4609112532926033335 [4609112532926033335, 4607182418800017408] U156.1 U156.2 h156 n0 (Nat.le_trans Z0 P156.1) rfl wf2.1 wf2.2.1 (by decide) (by decide) wf2.2.2.2.1 (by decide) (by decide) Q156_E Q156_F_act Q156_F_heap Q156_F_slot Q156_F_count Q156_F_gain Q156_F_choices Q156_VA Q156_VH Q156_VS (Ne.symm ne_b152_ka) (Ne.symm ne_b152_ha) (Ne.symm ne_b152_sa) ne_ha_ka ne_sa_ka ne_sa_ha ge_b152 ge_ka ge_ha ge_sa) (lenOf pd6 rfl) at_117 rfl (Nat.le_of_ble_eq_true rfl) (Nat.le_of_ble_eq_true rfl) (Nat.le_of_ble_eq_true rfl) (Nat.le_of_ble_eq_true rfl) rfl (pc' := 120) rfl ?_
        rintro v157 h157 ⟨rfl, K157, Q157_E, Q157_F_act, Q157_F_heap, Q157_F_slot, Q157_F_count, Q157_F_gain, Q157_F_choices, Q157_VA, Q157_VH, Q157_VS⟩
        have X157_b152 := (Exa.keep Q156_E K157)
        have V157_ka := (Q156_VA.keep K157 (ninS (Ne.symm ne_b152_ka) (ninS (Ne.symm ne_ha_ka) (ninS (Ne.symm ne_sa_ka) (nin0)))))
        have P157 := (P156.trans K157 (allS (Or.inr lt_b152) (allS (Or.inr lt_ha) (allS (Or.inr lt_sa) (all0)))))
        show Go _ _ _ _ _ _ _ _ _ _ _ h157 4 21 (mkF m 120 #[.val (.int p0), .val (.int p1), .val (.int p2), .val (.int (1 : Int32)), .val (.int (0 : Int32)), .val (.int (1 : Int32)), .val (.int (1 : Int32)), .val (.ref b152), .val (.int (1 : Int32)), .val (.int (0 : Int32))] [(.int (Int32.ofNat (U156.1.getD 0 0)))]) _
        rw [rt2, show Int32.ofNat 0 = 0 from rfl]
        refine Jvm.OwnWp.iload K at_120 rfl (pc' := 122) rfl ?_
        refine icN K at_122 (by decide) (pc' := 125) rfl ?_
        refine Jvm.OwnWp.iconst K (1 : Int32) at_125 (by decide) (pc' := 126) rfl ?_
        refine goto' K at_126 (pc' := 130) (by decide) (by decide) ?_
        refine retB K (t := .boolean) rfl (by simp) at_130 (Nat.le_of_ble_eq_true rfl) (Nat.le_of_ble_eq_true rfl) ?_
        rfl
      · refine Jvm.OwnWp.iloadN K at_0 rfl (pc' := 1) rfl ?_
        refine Jvm.OwnWp.iconst K (1 : Int32) at_1 (by decide) (pc' := 2) rfl ?_
        refine Jvm.OwnWp.iand K at_2 (pc' := 3) rfl ?_
        rw [qa]
        refine Jvm.OwnWp.istoreN K at_3 (Ls' := #[.val (.int p0), .val (.int p1), .val (.int p2), .val (.int (1 : Int32)), .unset, .unset, .unset, .unset, .unset, .unset]) rfl (pc' := 4) rfl ?_
        refine Jvm.OwnWp.iconst K (1 : Int32) at_4 (by decide) (pc' := 5) rfl ?_
        refine Jvm.OwnWp.iloadN K at_5 rfl (pc' := 6) rfl ?_
        refine Jvm.OwnWp.isub K at_6 (pc' := 7) rfl ?_
        rw [show (1 : Int32) - 1 = 0 by decide]
        refine Jvm.OwnWp.istore K at_7 (Ls' := #[.val (.int p0), .val (.int p1), .val (.int p2), .val (.int (1 : Int32)), .val (.int (0 : Int32)), .unset, .unset, .unset, .unset, .unset]) rfl (pc' := 9) rfl ?_
        refine Jvm.OwnWp.iconst K (1 : Int32) at_9 (by decide) (pc' := 10) rfl ?_
        refine Jvm.OwnWp.iloadN K at_10 rfl (pc' := 11) rfl ?_
        refine Jvm.OwnWp.ldcI K (wd0 hw) at_11 (pc' := 13) rfl ?_
        refine Jvm.OwnWp.iand K at_13 (pc' := 14) rfl ?_
        refine Jvm.OwnWp.iconst K (3 : Int32) at_14 (by decide) (pc' := 15) rfl ?_
        refine Jvm.OwnWp.irem K at_15 (by decide) (pc' := 16) rfl ?_
        rw [qm]
        refine Jvm.OwnWp.iadd K at_16 (pc' := 17) rfl ?_
        rw [show (1 : Int32) + 0 = 1 by decide]
        refine Jvm.OwnWp.istore K at_17 (Ls' := #[.val (.int p0), .val (.int p1), .val (.int p2), .val (.int (1 : Int32)), .val (.int (0 : Int32)), .val (.int (1 : Int32)), .unset, .unset, .unset, .unset]) rfl (pc' := 19) rfl ?_
        refine Jvm.OwnWp.iloadN K at_19 rfl (pc' := 20) rfl ?_
        refine Jvm.OwnWp.ldcI K (wd0 hw) at_20 (pc' := 22) rfl ?_
        refine Jvm.OwnWp.iand K at_22 (pc' := 23) rfl ?_
        refine Jvm.OwnWp.iconst K (5 : Int32) at_23 (by decide) (pc' := 24) rfl ?_
        refine Jvm.OwnWp.irem K at_24 (by decide) (pc' := 25) rfl ?_
        rw [qk]
        refine Jvm.OwnWp.istore K at_25 (Ls' := #[.val (.int p0), .val (.int p1), .val (.int p2), .val (.int (1 : Int32)), .val (.int (0 : Int32)), .val (.int (1 : Int32)), .val (.int (2 : Int32)), .unset, .unset, .unset]) rfl (pc' := 27) rfl ?_
        refine newObj K (wd1 hw) (wd2 hw) (wd3 hw) at_27 (by decide) (by decide) (pc' := 30) rfl ?_
        intro h158 b158 g158 E158 A158 D158
        have lt_b158 : h0.size ≤ b158 := Nat.le_trans P0.1 (Nat.le_of_eq g158.symm)
        have ge_b158 : n0 ≤ b158 := Nat.le_trans Z0 lt_b158
        have P158 := (P0.ext E158)
        have F158_gain_b158 : Fld Z h158 b158 "com/example/sightline/sightline/checker/ByActivity" "gain" "D" (.double (0 : UInt64)) := D158 (Or.inl (wd11 hw)) (ty := .double) (by decide)
        have F158_choices_b158 : Fld Z h158 b158 "com/example/sightline/sightline/checker/ByActivity" "choices" "I" (.int (0 : Int32)) := D158 (Or.inr (wd13 hw)) (ty := .int) (by decide)
        have F158_activity_b158 : Fld Z h158 b158 "com/example/sightline/sightline/checker/ByActivity" "activity" "[D" .null := D158 (Or.inl (wd24 hw)) (ty := (.array .double)) (by decide)
        have F158_heap_b158 : Fld Z h158 b158 "com/example/sightline/sightline/checker/ByActivity" "heap" "[I" .null := D158 (Or.inl (wd28 hw)) (ty := (.array .int)) (by decide)
        have F158_slot_b158 : Fld Z h158 b158 "com/example/sightline/sightline/checker/ByActivity" "slot" "[I" .null := D158 (Or.inl (wd30 hw)) (ty := (.array .int)) (by decide)
        have F158_count_b158 : Fld Z h158 b158 "com/example/sightline/sightline/checker/ByActivity" "count" "I" (.int (0 : Int32)) := D158 (Or.inl (wd42 hw)) (ty := .int) (by decide)
        refine Jvm.OwnWp.dup K at_30 rfl (pc' := 31) rfl ?_
        refine Jvm.OwnWp.iconst K (2 : Int32) at_31 (by decide) (pc' := 32) rfl ?_
        refine callInit K (y := (⟨"com/example/sightline/sightline/checker/ByActivity", "<init>", "(I)V"⟩ : MethodName)) (b := b158) (argsL := [(.int (2 : Int32))]) (S := [(.ref b158)]) rfl (wd4 hw) (wd5 hw) (wd3 hw) (wd6 hw) rfl (by decide) (c_init l Z a0 hw [] b158 2 h158 n0 (Nat.le_trans Z0 P158.1) A158 ge_b158 F158_gain_b158 F158_choices_b158 F158_activity_b158 F158_heap_b158 F158_slot_b158 F158_count_b158) (lenOf pd1 rfl) at_32 rfl (Nat.le_of_ble_eq_true rfl) (Nat.le_of_ble_eq_true rfl) (Nat.le_of_ble_eq_true rfl) (Nat.le_of_ble_eq_true rfl) rfl (pc' := 35) rfl ?_
        rintro v159 h159 ⟨rfl, K159, I159_gain, I159_choices, I159_activity, I159_heap, I159_slot, I159_count⟩
        have X159_b158 := (Exa.keep A158 K159)
        have P159 := (P158.trans K159 (allS (Or.inr lt_b158) (all0)))
        show Go _ _ _ _ _ _ _ _ _ _ _ h159 1 6 (mkF m 35 #[.val (.int p0), .val (.int p1), .val (.int p2), .val (.int (1 : Int32)), .val (.int (0 : Int32)), .val (.int (1 : Int32)), .val (.int (2 : Int32)), .unset, .unset, .unset] [(.ref b158)]) _
        refine Jvm.OwnWp.astore K at_35 rfl (Ls' := #[.val (.int p0), .val (.int p1), .val (.int p2), .val (.int (1 : Int32)), .val (.int (0 : Int32)), .val (.int (1 : Int32)), .val (.int (2 : Int32)), .val (.ref b158), .unset, .unset]) rfl (pc' := 37) rfl ?_
        refine Jvm.OwnWp.aload K at_37 rfl rfl (pc' := 39) rfl ?_
        refine Jvm.OwnWp.iloadN K at_39 rfl (pc' := 40) rfl ?_
        refine Jvm.OwnWp.iload K at_40 rfl (pc' := 42) rfl ?_
        refine callStatic K (y := (⟨"com/example/sightline/sightline/checker/ByActivityDecayPinLaw", "bumps", "(Lcom/example/sightline/sightline/checker/ByActivity;II)V"⟩ : MethodName)) (argsL := [(.ref b158), (.int (1 : Int32)), (.int (1 : Int32))]) (S := []) (wd14 hw) (wd15 hw) (wd16 hw) (wd17 hw) (by decide) (c_b11 l Z a0 hw [] b158 h159 n0 (Nat.le_trans Z0 P159.1) X159_b158 I159_activity I159_heap I159_slot I159_count I159_gain I159_choices ge_b158) (lenOf pd4 rfl) at_42 rfl (Nat.le_of_ble_eq_true rfl) (Nat.le_of_ble_eq_true rfl) (Nat.le_of_ble_eq_true rfl) (Nat.le_of_ble_eq_true rfl) rfl (pc' := 45) rfl ?_
        rintro v160 h160 ⟨rfl, K160, ka, ha, sa, Hl, Sl, zk, zh, zs, ne_ha_ka, ne_sa_ka, ne_sa_ha, wf, rt, Q160_E, Q160_F_act, Q160_F_heap, Q160_F_slot, Q160_F_count, Q160_F_gain, Q160_F_choices, Q160_VA, Q160_VH, Q160_VS⟩
        have ne_b158_ka : b158 ≠ ka := Nat.ne_of_lt (Nat.lt_of_lt_of_le (Exa.lt X159_b158) zk)
        have lt_ka : h0.size ≤ ka := Nat.le_trans P159.1 zk
        have ge_ka : n0 ≤ ka := Nat.le_trans Z0 lt_ka
        have ne_b158_ha : b158 ≠ ha := Nat.ne_of_lt (Nat.lt_of_lt_of_le (Exa.lt X159_b158) zh)
        have lt_ha : h0.size ≤ ha := Nat.le_trans P159.1 zh
        have ge_ha : n0 ≤ ha := Nat.le_trans Z0 lt_ha
        have ne_b158_sa : b158 ≠ sa := Nat.ne_of_lt (Nat.lt_of_lt_of_le (Exa.lt X159_b158) zs)
        have lt_sa : h0.size ≤ sa := Nat.le_trans P159.1 zs
        have ge_sa : n0 ≤ sa := Nat.le_trans Z0 lt_sa
        have X160_b158 := (Exa.keep X159_b158 K160)
        have P160 := (P159.trans K160 (allS (Or.inr lt_b158) (all0)))
        show Go _ _ _ _ _ _ _ _ _ _ _ h160 4 21 (mkF m 45 #[.val (.int p0), .val (.int p1), .val (.int p2), .val (.int (1 : Int32)), .val (.int (0 : Int32)), .val (.int (1 : Int32)), .val (.int (2 : Int32)), .val (.ref b158), .unset, .unset] []) _
        refine Jvm.OwnWp.aload K at_45 rfl rfl (pc' := 47) rfl ?_
        refine Jvm.OwnWp.iload K at_47 rfl (pc' := 49) rfl ?_
        refine callStatic K (y := (⟨"com/example/sightline/sightline/checker/ByActivityDecayPinLaw", "decays", "(Lcom/example/sightline/sightline/checker/ByActivity;I)V"⟩ : MethodName)) (argsL := [(.ref b158), (.int (2 : Int32))]) (S := []) (wd51 hw) (wd52 hw) (wd16 hw) (wd53 hw) (by decide) (c_dec2 l Z a0 hw [] b158 ka ha sa h160 n0 (Nat.le_trans Z0 P160.1) Q160_E Q160_F_act Q160_F_heap Q160_F_slot Q160_F_count Q160_F_gain Q160_F_choices ge_b158) (lenOf pd5 rfl) at_49 rfl (Nat.le_of_ble_eq_true rfl) (Nat.le_of_ble_eq_true rfl) (Nat.le_of_ble_eq_true rfl) (Nat.le_of_ble_eq_true rfl) rfl (pc' := 52) rfl ?_
        rintro v161 h161 ⟨rfl, K161, Q161_F_act, Q161_F_heap, Q161_F_slot, Q161_F_count, Q161_F_gain, Q161_F_choices⟩
        have X161_b158 := (Exa.keep Q160_E K161)
        have V161_ka := (Q160_VA.keep K161 (ninS (Ne.symm ne_b158_ka) (nin0)))
        have V161_ha := (Q160_VH.keep K161 (ninS (Ne.symm ne_b158_ha) (nin0)))
        have V161_sa := (Q160_VS.keep K161 (ninS (Ne.symm ne_b158_sa) (nin0)))
        have P161 := (P160.trans K161 (allS (Or.inr lt_b158) (all0)))
        show Go _ _ _ _ _ _ _ _ _ _ _ h161 4 21 (mkF m 52 #[.val (.int p0), .val (.int p1), .val (.int p2), .val (.int (1 : Int32)), .val (.int (0 : Int32)), .val (.int (1 : Int32)), .val (.int (2 : Int32)), .val (.ref b158), .unset, .unset] []) _
        refine Jvm.OwnWp.aload K at_52 rfl rfl (pc' := 54) rfl ?_
        refine Jvm.OwnWp.iload K at_54 rfl (pc' := 56) rfl ?_
        refine callVirt K (y := (⟨"com/example/sightline/sightline/checker/ByActivity", "bump", "(I)V"⟩ : MethodName)) (b := b158) (argsL := [(.int (0 : Int32))]) (S := []) (wd18 hw) (wd19 hw) (wd21 hw) (wd20 hw) (wd3 hw) (wd22 hw) (by decide) X161_b158 (c_bumpN l Z a0 hw [] b158 ka ha sa 2 1 4611777928623864853 [0, 4607182418800017408] Hl Sl 0 h161 n0 (Nat.le_trans Z0 P161.1) rfl wf.1 wf.2.1 (by decide) (by decide) wf.2.2.2.1 (by decide) (by decide) (Jvm.Free.Fl.val64_no.mpr (by decide +kernel)) (by decide +kernel) (abs1 wf rt (by decide) (by decide)) X161_b158 Q161_F_act Q161_F_heap Q161_F_slot Q161_F_count Q161_F_gain Q161_F_choices V161_ka V161_ha V161_sa (Ne.symm ne_b158_ka) (Ne.symm ne_b158_ha) (Ne.symm ne_b158_sa) ne_ha_ka ne_sa_ka ne_sa_ha ge_b158 ge_ka ge_ha ge_sa) (lenOf pd1 rfl) at_56 rfl (Nat.le_of_ble_eq_true rfl) (Nat.le_of_ble_eq_true rfl) (Nat.le_of_ble_eq_true rfl) (Nat.le_of_ble_eq_true rfl) rfl (pc' := 59) rfl ?_
        rintro v162 h162 ⟨rfl, K162, Q162_E, Q162_F_act, Q162_F_heap, Q162_F_slot, Q162_F_count, Q162_F_gain, Q162_F_choices, Q162_VA, Q162_VH, Q162_VS⟩
        have X162_b158 := (Exa.keep X161_b158 K162)
        have P162 := (P161.trans K162 (allS (Or.inr lt_b158) (allS (Or.inr lt_ka) (allS (Or.inr lt_ha) (allS (Or.inr lt_sa) (all0))))))
        show Go _ _ _ _ _ _ _ _ _ _ _ h162 4 21 (mkF m 59 #[.val (.int p0), .val (.int p1), .val (.int p2), .val (.int (1 : Int32)), .val (.int (0 : Int32)), .val (.int (1 : Int32)), .val (.int (2 : Int32)), .val (.ref b158), .unset, .unset] []) _
        rw [show ([0, 4607182418800017408].set 0 (FP.dadd ([0, 4607182418800017408].getD 0 0) 4611777928623864853)) = [4611777928623864853, 4607182418800017408] from (by decide +kernel)] at Q162_VA Q162_VH Q162_VS
        have hA2 : Nums [4611777928623864853, 4607182418800017408] := nums2 (by unfold Jvm.OwnHeap.Num; decide +kernel) (by unfold Jvm.OwnHeap.Num; decide +kernel)
        have wf2 := (push_spec (by decide) hA2 wf ord1 (by decide) (by decide : 0 < 2) (abs1 wf rt (by decide) (by decide))).1
        have rt2 := push_root (A := [4611777928623864853, 4607182418800017408]) (c := 0) (S := Sl) wf.1 rt
        rw [if_pos (by decide +kernel)] at rt2
        generalize pushB [4611777928623864853, 4607182418800017408] 0 Hl Sl 1 = U162 at *
        have Q162_F_count : Fld Z h162 b158 "com/example/sightline/sightline/checker/ByActivity" "count" "I" (.int (Int32.ofNat 2)) := Q162_F_count
        refine Jvm.OwnWp.iload K at_59 rfl (pc' := 61) rfl ?_
        refine Jvm.OwnWp.iconst K (1 : Int32) at_61 (by decide) (pc' := 62) rfl ?_
        refine icN K at_62 (by decide) (pc' := 65) rfl ?_
        refine Jvm.OwnWp.iload K at_65 rfl (pc' := 67) rfl ?_
        refine Jvm.OwnWp.iconst K (1 : Int32) at_67 (by decide) (pc' := 68) rfl ?_
        refine icY K at_68 (by decide) (pc' := 95) (by decide) (by decide) ?_
        refine Jvm.OwnWp.iconst K (1 : Int32) at_95 (by decide) (pc' := 96) rfl ?_
        refine goto' K at_96 (pc' := 100) (by decide) (by decide) ?_
        refine Jvm.OwnWp.istore K at_100 (Ls' := #[.val (.int p0), .val (.int p1), .val (.int p2), .val (.int (1 : Int32)), .val (.int (0 : Int32)), .val (.int (1 : Int32)), .val (.int (2 : Int32)), .val (.ref b158), .val (.int (1 : Int32)), .unset]) rfl (pc' := 102) rfl ?_
        refine Jvm.OwnWp.iload K at_102 rfl (pc' := 104) rfl ?_
        refine ifN K at_104 (by decide) (pc' := 107) rfl ?_
        refine Jvm.OwnWp.iload K at_107 rfl (pc' := 109) rfl ?_
        refine goto' K at_109 (pc' := 113) (by decide) (by decide) ?_
        refine Jvm.OwnWp.istore K at_113 (Ls' := #[.val (.int p0), .val (.int p1), .val (.int p2), .val (.int (1 : Int32)), .val (.int (0 : Int32)), .val (.int (1 : Int32)), .val (.int (2 : Int32)), .val (.ref b158), .val (.int (1 : Int32)), .val (.int (0 : Int32))]) rfl (pc' := 115) rfl ?_
        refine Jvm.OwnWp.aload K at_115 rfl rfl (pc' := 117) rfl ?_
        refine callVirt K (y := (⟨"com/example/sightline/sightline/checker/ByActivity", "pop", "()I"⟩ : MethodName)) (b := b158) (argsL := []) (S := []) (wd60 hw) (wd61 hw) (wd63 hw) (wd62 hw) (wd3 hw) (wd64 hw) (by decide) Q162_E (c_pop l Z a0 hw [] b158 ka ha sa 2 2 4611777928623864853 [4611777928623864853, 4607182418800017408] U162.1 U162.2 h162 n0 (Nat.le_trans Z0 P162.1) rfl wf2.1 wf2.2.1 (by decide) (by decide) wf2.2.2.2.1 (by decide) (by decide) Q162_E Q162_F_act Q162_F_heap Q162_F_slot Q162_F_count Q162_F_gain Q162_F_choices Q162_VA Q162_VH Q162_VS (Ne.symm ne_b158_ka) (Ne.symm ne_b158_ha) (Ne.symm ne_b158_sa) ne_ha_ka ne_sa_ka ne_sa_ha ge_b158 ge_ka ge_ha ge_sa) (lenOf pd6 rfl) at_117 rfl (Nat.le_of_ble_eq_true rfl) (Nat.le_of_ble_eq_true rfl) (Nat.le_of_ble_eq_true rfl) (Nat.le_of_ble_eq_true rfl) rfl (pc' := 120) rfl ?_
        rintro v163 h163 ⟨rfl, K163, Q163_E, Q163_F_act, Q163_F_heap, Q163_F_slot, Q163_F_count, Q163_F_gain, Q163_F_choices, Q163_VA, Q163_VH, Q163_VS⟩
        have X163_b158 := (Exa.keep Q162_E K163)
        have V163_ka := (Q162_VA.keep K163 (ninS (Ne.symm ne_b158_ka) (ninS (Ne.symm ne_ha_ka) (ninS (Ne.symm ne_sa_ka) (nin0)))))
        have P163 := (P162.trans K163 (allS (Or.inr lt_b158) (allS (Or.inr lt_ha) (allS (Or.inr lt_sa) (all0)))))
        show Go _ _ _ _ _ _ _ _ _ _ _ h163 4 21 (mkF m 120 #[.val (.int p0), .val (.int p1), .val (.int p2), .val (.int (1 : Int32)), .val (.int (0 : Int32)), .val (.int (1 : Int32)), .val (.int (2 : Int32)), .val (.ref b158), .val (.int (1 : Int32)), .val (.int (0 : Int32))] [(.int (Int32.ofNat (U162.1.getD 0 0)))]) _
        rw [rt2, show Int32.ofNat 0 = 0 from rfl]
        refine Jvm.OwnWp.iload K at_120 rfl (pc' := 122) rfl ?_
        refine icN K at_122 (by decide) (pc' := 125) rfl ?_
        refine Jvm.OwnWp.iconst K (1 : Int32) at_125 (by decide) (pc' := 126) rfl ?_
        refine goto' K at_126 (pc' := 130) (by decide) (by decide) ?_
        refine retB K (t := .boolean) rfl (by simp) at_130 (Nat.le_of_ble_eq_true rfl) (Nat.le_of_ble_eq_true rfl) ?_
        rfl
      · refine Jvm.OwnWp.iloadN K at_0 rfl (pc' := 1) rfl ?_
        refine Jvm.OwnWp.iconst K (1 : Int32) at_1 (by decide) (pc' := 2) rfl ?_
        refine Jvm.OwnWp.iand K at_2 (pc' := 3) rfl ?_
        rw [qa]
        refine Jvm.OwnWp.istoreN K at_3 (Ls' := #[.val (.int p0), .val (.int p1), .val (.int p2), .val (.int (1 : Int32)), .unset, .unset, .unset, .unset, .unset, .unset]) rfl (pc' := 4) rfl ?_
        refine Jvm.OwnWp.iconst K (1 : Int32) at_4 (by decide) (pc' := 5) rfl ?_
        refine Jvm.OwnWp.iloadN K at_5 rfl (pc' := 6) rfl ?_
        refine Jvm.OwnWp.isub K at_6 (pc' := 7) rfl ?_
        rw [show (1 : Int32) - 1 = 0 by decide]
        refine Jvm.OwnWp.istore K at_7 (Ls' := #[.val (.int p0), .val (.int p1), .val (.int p2), .val (.int (1 : Int32)), .val (.int (0 : Int32)), .unset, .unset, .unset, .unset, .unset]) rfl (pc' := 9) rfl ?_
        refine Jvm.OwnWp.iconst K (1 : Int32) at_9 (by decide) (pc' := 10) rfl ?_
        refine Jvm.OwnWp.iloadN K at_10 rfl (pc' := 11) rfl ?_
        refine Jvm.OwnWp.ldcI K (wd0 hw) at_11 (pc' := 13) rfl ?_
        refine Jvm.OwnWp.iand K at_13 (pc' := 14) rfl ?_
        refine Jvm.OwnWp.iconst K (3 : Int32) at_14 (by decide) (pc' := 15) rfl ?_
        refine Jvm.OwnWp.irem K at_15 (by decide) (pc' := 16) rfl ?_
        rw [qm]
        refine Jvm.OwnWp.iadd K at_16 (pc' := 17) rfl ?_
        rw [show (1 : Int32) + 0 = 1 by decide]
        refine Jvm.OwnWp.istore K at_17 (Ls' := #[.val (.int p0), .val (.int p1), .val (.int p2), .val (.int (1 : Int32)), .val (.int (0 : Int32)), .val (.int (1 : Int32)), .unset, .unset, .unset, .unset]) rfl (pc' := 19) rfl ?_
        refine Jvm.OwnWp.iloadN K at_19 rfl (pc' := 20) rfl ?_
        refine Jvm.OwnWp.ldcI K (wd0 hw) at_20 (pc' := 22) rfl ?_
        refine Jvm.OwnWp.iand K at_22 (pc' := 23) rfl ?_
        refine Jvm.OwnWp.iconst K (5 : Int32) at_23 (by decide) (pc' := 24) rfl ?_
        refine Jvm.OwnWp.irem K at_24 (by decide) (pc' := 25) rfl ?_
        rw [qk]
        refine Jvm.OwnWp.istore K at_25 (Ls' := #[.val (.int p0), .val (.int p1), .val (.int p2), .val (.int (1 : Int32)), .val (.int (0 : Int32)), .val (.int (1 : Int32)), .val (.int (3 : Int32)), .unset, .unset, .unset]) rfl (pc' := 27) rfl ?_
        refine newObj K (wd1 hw) (wd2 hw) (wd3 hw) at_27 (by decide) (by decide) (pc' := 30) rfl ?_
        intro h164 b164 g164 E164 A164 D164
        have lt_b164 : h0.size ≤ b164 := Nat.le_trans P0.1 (Nat.le_of_eq g164.symm)
        have ge_b164 : n0 ≤ b164 := Nat.le_trans Z0 lt_b164
        have P164 := (P0.ext E164)
        have F164_gain_b164 : Fld Z h164 b164 "com/example/sightline/sightline/checker/ByActivity" "gain" "D" (.double (0 : UInt64)) := D164 (Or.inl (wd11 hw)) (ty := .double) (by decide)
        have F164_choices_b164 : Fld Z h164 b164 "com/example/sightline/sightline/checker/ByActivity" "choices" "I" (.int (0 : Int32)) := D164 (Or.inr (wd13 hw)) (ty := .int) (by decide)
        have F164_activity_b164 : Fld Z h164 b164 "com/example/sightline/sightline/checker/ByActivity" "activity" "[D" .null := D164 (Or.inl (wd24 hw)) (ty := (.array .double)) (by decide)
        have F164_heap_b164 : Fld Z h164 b164 "com/example/sightline/sightline/checker/ByActivity" "heap" "[I" .null := D164 (Or.inl (wd28 hw)) (ty := (.array .int)) (by decide)
        have F164_slot_b164 : Fld Z h164 b164 "com/example/sightline/sightline/checker/ByActivity" "slot" "[I" .null := D164 (Or.inl (wd30 hw)) (ty := (.array .int)) (by decide)
        have F164_count_b164 : Fld Z h164 b164 "com/example/sightline/sightline/checker/ByActivity" "count" "I" (.int (0 : Int32)) := D164 (Or.inl (wd42 hw)) (ty := .int) (by decide)
        refine Jvm.OwnWp.dup K at_30 rfl (pc' := 31) rfl ?_
        refine Jvm.OwnWp.iconst K (2 : Int32) at_31 (by decide) (pc' := 32) rfl ?_
        refine callInit K (y := (⟨"com/example/sightline/sightline/checker/ByActivity", "<init>", "(I)V"⟩ : MethodName)) (b := b164) (argsL := [(.int (2 : Int32))]) (S := [(.ref b164)]) rfl (wd4 hw) (wd5 hw) (wd3 hw) (wd6 hw) rfl (by decide) (c_init l Z a0 hw [] b164 2 h164 n0 (Nat.le_trans Z0 P164.1) A164 ge_b164 F164_gain_b164 F164_choices_b164 F164_activity_b164 F164_heap_b164 F164_slot_b164 F164_count_b164) (lenOf pd1 rfl) at_32 rfl (Nat.le_of_ble_eq_true rfl) (Nat.le_of_ble_eq_true rfl) (Nat.le_of_ble_eq_true rfl) (Nat.le_of_ble_eq_true rfl) rfl (pc' := 35) rfl ?_
        rintro v165 h165 ⟨rfl, K165, I165_gain, I165_choices, I165_activity, I165_heap, I165_slot, I165_count⟩
        have X165_b164 := (Exa.keep A164 K165)
        have P165 := (P164.trans K165 (allS (Or.inr lt_b164) (all0)))
        show Go _ _ _ _ _ _ _ _ _ _ _ h165 1 6 (mkF m 35 #[.val (.int p0), .val (.int p1), .val (.int p2), .val (.int (1 : Int32)), .val (.int (0 : Int32)), .val (.int (1 : Int32)), .val (.int (3 : Int32)), .unset, .unset, .unset] [(.ref b164)]) _
        refine Jvm.OwnWp.astore K at_35 rfl (Ls' := #[.val (.int p0), .val (.int p1), .val (.int p2), .val (.int (1 : Int32)), .val (.int (0 : Int32)), .val (.int (1 : Int32)), .val (.int (3 : Int32)), .val (.ref b164), .unset, .unset]) rfl (pc' := 37) rfl ?_
        refine Jvm.OwnWp.aload K at_37 rfl rfl (pc' := 39) rfl ?_
        refine Jvm.OwnWp.iloadN K at_39 rfl (pc' := 40) rfl ?_
        refine Jvm.OwnWp.iload K at_40 rfl (pc' := 42) rfl ?_
        refine callStatic K (y := (⟨"com/example/sightline/sightline/checker/ByActivityDecayPinLaw", "bumps", "(Lcom/example/sightline/sightline/checker/ByActivity;II)V"⟩ : MethodName)) (argsL := [(.ref b164), (.int (1 : Int32)), (.int (1 : Int32))]) (S := []) (wd14 hw) (wd15 hw) (wd16 hw) (wd17 hw) (by decide) (c_b11 l Z a0 hw [] b164 h165 n0 (Nat.le_trans Z0 P165.1) X165_b164 I165_activity I165_heap I165_slot I165_count I165_gain I165_choices ge_b164) (lenOf pd4 rfl) at_42 rfl (Nat.le_of_ble_eq_true rfl) (Nat.le_of_ble_eq_true rfl) (Nat.le_of_ble_eq_true rfl) (Nat.le_of_ble_eq_true rfl) rfl (pc' := 45) rfl ?_
        rintro v166 h166 ⟨rfl, K166, ka, ha, sa, Hl, Sl, zk, zh, zs, ne_ha_ka, ne_sa_ka, ne_sa_ha, wf, rt, Q166_E, Q166_F_act, Q166_F_heap, Q166_F_slot, Q166_F_count, Q166_F_gain, Q166_F_choices, Q166_VA, Q166_VH, Q166_VS⟩
        have ne_b164_ka : b164 ≠ ka := Nat.ne_of_lt (Nat.lt_of_lt_of_le (Exa.lt X165_b164) zk)
        have lt_ka : h0.size ≤ ka := Nat.le_trans P165.1 zk
        have ge_ka : n0 ≤ ka := Nat.le_trans Z0 lt_ka
        have ne_b164_ha : b164 ≠ ha := Nat.ne_of_lt (Nat.lt_of_lt_of_le (Exa.lt X165_b164) zh)
        have lt_ha : h0.size ≤ ha := Nat.le_trans P165.1 zh
        have ge_ha : n0 ≤ ha := Nat.le_trans Z0 lt_ha
        have ne_b164_sa : b164 ≠ sa := Nat.ne_of_lt (Nat.lt_of_lt_of_le (Exa.lt X165_b164) zs)
        have lt_sa : h0.size ≤ sa := Nat.le_trans P165.1 zs
        have ge_sa : n0 ≤ sa := Nat.le_trans Z0 lt_sa
        have X166_b164 := (Exa.keep X165_b164 K166)
        have P166 := (P165.trans K166 (allS (Or.inr lt_b164) (all0)))
        show Go _ _ _ _ _ _ _ _ _ _ _ h166 4 21 (mkF m 45 #[.val (.int p0), .val (.int p1), .val (.int p2), .val (.int (1 : Int32)), .val (.int (0 : Int32)), .val (.int (1 : Int32)), .val (.int (3 : Int32)), .val (.ref b164), .unset, .unset] []) _
        refine Jvm.OwnWp.aload K at_45 rfl rfl (pc' := 47) rfl ?_
        refine Jvm.OwnWp.iload K at_47 rfl (pc' := 49) rfl ?_
        refine callStatic K (y := (⟨"com/example/sightline/sightline/checker/ByActivityDecayPinLaw", "decays", "(Lcom/example/sightline/sightline/checker/ByActivity;I)V"⟩ : MethodName)) (argsL := [(.ref b164), (.int (3 : Int32))]) (S := []) (wd51 hw) (wd52 hw) (wd16 hw) (wd53 hw) (by decide) (c_dec3 l Z a0 hw [] b164 ka ha sa h166 n0 (Nat.le_trans Z0 P166.1) Q166_E Q166_F_act Q166_F_heap Q166_F_slot Q166_F_count Q166_F_gain Q166_F_choices ge_b164) (lenOf pd5 rfl) at_49 rfl (Nat.le_of_ble_eq_true rfl) (Nat.le_of_ble_eq_true rfl) (Nat.le_of_ble_eq_true rfl) (Nat.le_of_ble_eq_true rfl) rfl (pc' := 52) rfl ?_
        rintro v167 h167 ⟨rfl, K167, Q167_F_act, Q167_F_heap, Q167_F_slot, Q167_F_count, Q167_F_gain, Q167_F_choices⟩
        have X167_b164 := (Exa.keep Q166_E K167)
        have V167_ka := (Q166_VA.keep K167 (ninS (Ne.symm ne_b164_ka) (nin0)))
        have V167_ha := (Q166_VH.keep K167 (ninS (Ne.symm ne_b164_ha) (nin0)))
        have V167_sa := (Q166_VS.keep K167 (ninS (Ne.symm ne_b164_sa) (nin0)))
        have P167 := (P166.trans K167 (allS (Or.inr lt_b164) (all0)))
        show Go _ _ _ _ _ _ _ _ _ _ _ h167 4 21 (mkF m 52 #[.val (.int p0), .val (.int p1), .val (.int p2), .val (.int (1 : Int32)), .val (.int (0 : Int32)), .val (.int (1 : Int32)), .val (.int (3 : Int32)), .val (.ref b164), .unset, .unset] []) _
        refine Jvm.OwnWp.aload K at_52 rfl rfl (pc' := 54) rfl ?_
        refine Jvm.OwnWp.iload K at_54 rfl (pc' := 56) rfl ?_
        refine callVirt K (y := (⟨"com/example/sightline/sightline/checker/ByActivity", "bump", "(I)V"⟩ : MethodName)) (b := b164) (argsL := [(.int (0 : Int32))]) (S := []) (wd18 hw) (wd19 hw) (wd21 hw) (wd20 hw) (wd3 hw) (wd22 hw) (by decide) X167_b164 (c_bumpN l Z a0 hw [] b164 ka ha sa 2 1 4613747432834085187 [0, 4607182418800017408] Hl Sl 0 h167 n0 (Nat.le_trans Z0 P167.1) rfl wf.1 wf.2.1 (by decide) (by decide) wf.2.2.2.1 (by decide) (by decide) (Jvm.Free.Fl.val64_no.mpr (by decide +kernel)) (by decide +kernel) (abs1 wf rt (by decide) (by decide)) X167_b164 Q167_F_act Q167_F_heap Q167_F_slot Q167_F_count Q167_F_gain Q167_F_choices V167_ka V167_ha V167_sa (Ne.symm ne_b164_ka) (Ne.symm ne_b164_ha) (Ne.symm ne_b164_sa) ne_ha_ka ne_sa_ka ne_sa_ha ge_b164 ge_ka ge_ha ge_sa) (lenOf pd1 rfl) at_56 rfl (Nat.le_of_ble_eq_true rfl) (Nat.le_of_ble_eq_true rfl) (Nat.le_of_ble_eq_true rfl) (Nat.le_of_ble_eq_true rfl) rfl (pc' := 59) rfl ?_
        rintro v168 h168 ⟨rfl, K168, Q168_E, Q168_F_act, Q168_F_heap, Q168_F_slot, Q168_F_count, Q168_F_gain, Q168_F_choices, Q168_VA, Q168_VH, Q168_VS⟩
        have X168_b164 := (Exa.keep X167_b164 K168)
        have P168 := (P167.trans K168 (allS (Or.inr lt_b164) (allS (Or.inr lt_ka) (allS (Or.inr lt_ha) (allS (Or.inr lt_sa) (all0))))))
        show Go _ _ _ _ _ _ _ _ _ _ _ h168 4 21 (mkF m 59 #[.val (.int p0), .val (.int p1), .val (.int p2), .val (.int (1 : Int32)), .val (.int (0 : Int32)), .val (.int (1 : Int32)), .val (.int (3 : Int32)), .val (.ref b164), .unset, .unset] []) _
        rw [show ([0, 4607182418800017408].set 0 (FP.dadd ([0, 4607182418800017408].getD 0 0) 4613747432834085187)) = [4613747432834085187, 4607182418800017408] from (by decide +kernel)] at Q168_VA Q168_VH Q168_VS
        have hA2 : Nums [4613747432834085187, 4607182418800017408] := nums2 (by unfold Jvm.OwnHeap.Num; decide +kernel) (by unfold Jvm.OwnHeap.Num; decide +kernel)
        have wf2 := (push_spec (by decide) hA2 wf ord1 (by decide) (by decide : 0 < 2) (abs1 wf rt (by decide) (by decide))).1
        have rt2 := push_root (A := [4613747432834085187, 4607182418800017408]) (c := 0) (S := Sl) wf.1 rt
        rw [if_pos (by decide +kernel)] at rt2
        generalize pushB [4613747432834085187, 4607182418800017408] 0 Hl Sl 1 = U168 at *
        have Q168_F_count : Fld Z h168 b164 "com/example/sightline/sightline/checker/ByActivity" "count" "I" (.int (Int32.ofNat 2)) := Q168_F_count
        refine Jvm.OwnWp.iload K at_59 rfl (pc' := 61) rfl ?_
        refine Jvm.OwnWp.iconst K (1 : Int32) at_61 (by decide) (pc' := 62) rfl ?_
        refine icN K at_62 (by decide) (pc' := 65) rfl ?_
        refine Jvm.OwnWp.iload K at_65 rfl (pc' := 67) rfl ?_
        refine Jvm.OwnWp.iconst K (1 : Int32) at_67 (by decide) (pc' := 68) rfl ?_
        refine icY K at_68 (by decide) (pc' := 95) (by decide) (by decide) ?_
        refine Jvm.OwnWp.iconst K (1 : Int32) at_95 (by decide) (pc' := 96) rfl ?_
        refine goto' K at_96 (pc' := 100) (by decide) (by decide) ?_
        refine Jvm.OwnWp.istore K at_100 (Ls' := #[.val (.int p0), .val (.int p1), .val (.int p2), .val (.int (1 : Int32)), .val (.int (0 : Int32)), .val (.int (1 : Int32)), .val (.int (3 : Int32)), .val (.ref b164), .val (.int (1 : Int32)), .unset]) rfl (pc' := 102) rfl ?_
        refine Jvm.OwnWp.iload K at_102 rfl (pc' := 104) rfl ?_
        refine ifN K at_104 (by decide) (pc' := 107) rfl ?_
        refine Jvm.OwnWp.iload K at_107 rfl (pc' := 109) rfl ?_
        refine goto' K at_109 (pc' := 113) (by decide) (by decide) ?_
        refine Jvm.OwnWp.istore K at_113 (Ls' := #[.val (.int p0), .val (.int p1), .val (.int p2), .val (.int (1 : Int32)), .val (.int (0 : Int32)), .val (.int (1 : Int32)), .val (.int (3 : Int32)), .val (.ref b164), .val (.int (1 : Int32)), .val (.int (0 : Int32))]) rfl (pc' := 115) rfl ?_
        refine Jvm.OwnWp.aload K at_115 rfl rfl (pc' := 117) rfl ?_
        refine callVirt K (y := (⟨"com/example/sightline/sightline/checker/ByActivity", "pop", "()I"⟩ : MethodName)) (b := b164) (argsL := []) (S := []) (wd60 hw) (wd61 hw) (wd63 hw) (wd62 hw) (wd3 hw) (wd64 hw) (by decide) Q168_E (c_pop l Z a0 hw [] b164 ka ha sa 2 2 4613747432834085187 [4613747432834085187, 4607182418800017408] U168.1 U168.2 h168 n0 (Nat.le_trans Z0 P168.1) rfl wf2.1 wf2.2.1 (by decide) (by decide) wf2.2.2.2.1 (by decide) (by decide) Q168_E Q168_F_act Q168_F_heap Q168_F_slot Q168_F_count Q168_F_gain Q168_F_choices Q168_VA Q168_VH Q168_VS (Ne.symm ne_b164_ka) (Ne.symm ne_b164_ha) (Ne.symm ne_b164_sa) ne_ha_ka ne_sa_ka ne_sa_ha ge_b164 ge_ka ge_ha ge_sa) (lenOf pd6 rfl) at_117 rfl (Nat.le_of_ble_eq_true rfl) (Nat.le_of_ble_eq_true rfl) (Nat.le_of_ble_eq_true rfl) (Nat.le_of_ble_eq_true rfl) rfl (pc' := 120) rfl ?_
        rintro v169 h169 ⟨rfl, K169, Q169_E, Q169_F_act, Q169_F_heap, Q169_F_slot, Q169_F_count, Q169_F_gain, Q169_F_choices, Q169_VA, Q169_VH, Q169_VS⟩
        have X169_b164 := (Exa.keep Q168_E K169)
        have V169_ka := (Q168_VA.keep K169 (ninS (Ne.symm ne_b164_ka) (ninS (Ne.symm ne_ha_ka) (ninS (Ne.symm ne_sa_ka) (nin0)))))
        have P169 := (P168.trans K169 (allS (Or.inr lt_b164) (allS (Or.inr lt_ha) (allS (Or.inr lt_sa) (all0)))))
        show Go _ _ _ _ _ _ _ _ _ _ _ h169 4 21 (mkF m 120 #[.val (.int p0), .val (.int p1), .val (.int p2), .val (.int (1 : Int32)), .val (.int (0 : Int32)), .val (.int (1 : Int32)), .val (.int (3 : Int32)), .val (.ref b164), .val (.int (1 : Int32)), .val (.int (0 : Int32))] [(.int (Int32.ofNat (U168.1.getD 0 0)))]) _
        rw [rt2, show Int32.ofNat 0 = 0 from rfl]
        refine Jvm.OwnWp.iload K at_120 rfl (pc' := 122) rfl ?_
        refine icN K at_122 (by decide) (pc' := 125) rfl ?_
        refine Jvm.OwnWp.iconst K (1 : Int32) at_125 (by decide) (pc' := 126) rfl ?_
        refine goto' K at_126 (pc' := 130) (by decide) (by decide) ?_
        refine retB K (t := .boolean) rfl (by simp) at_130 (Nat.le_of_ble_eq_true rfl) (Nat.le_of_ble_eq_true rfl) ?_
        rfl
      · refine Jvm.OwnWp.iloadN K at_0 rfl (pc' := 1) rfl ?_
        refine Jvm.OwnWp.iconst K (1 : Int32) at_1 (by decide) (pc' := 2) rfl ?_
        refine Jvm.OwnWp.iand K at_2 (pc' := 3) rfl ?_
        rw [qa]
        refine Jvm.OwnWp.istoreN K at_3 (Ls' := #[.val (.int p0), .val (.int p1), .val (.int p2), .val (.int (1 : Int32)), .unset, .unset, .unset, .unset, .unset, .unset]) rfl (pc' := 4) rfl ?_
        refine Jvm.OwnWp.iconst K (1 : Int32) at_4 (by decide) (pc' := 5) rfl ?_
        refine Jvm.OwnWp.iloadN K at_5 rfl (pc' := 6) rfl ?_
        refine Jvm.OwnWp.isub K at_6 (pc' := 7) rfl ?_
        rw [show (1 : Int32) - 1 = 0 by decide]
        refine Jvm.OwnWp.istore K at_7 (Ls' := #[.val (.int p0), .val (.int p1), .val (.int p2), .val (.int (1 : Int32)), .val (.int (0 : Int32)), .unset, .unset, .unset, .unset, .unset]) rfl (pc' := 9) rfl ?_
        refine Jvm.OwnWp.iconst K (1 : Int32) at_9 (by decide) (pc' := 10) rfl ?_
        refine Jvm.OwnWp.iloadN K at_10 rfl (pc' := 11) rfl ?_
        refine Jvm.OwnWp.ldcI K (wd0 hw) at_11 (pc' := 13) rfl ?_
        refine Jvm.OwnWp.iand K at_13 (pc' := 14) rfl ?_
        refine Jvm.OwnWp.iconst K (3 : Int32) at_14 (by decide) (pc' := 15) rfl ?_
        refine Jvm.OwnWp.irem K at_15 (by decide) (pc' := 16) rfl ?_
        rw [qm]
        refine Jvm.OwnWp.iadd K at_16 (pc' := 17) rfl ?_
        rw [show (1 : Int32) + 0 = 1 by decide]
        refine Jvm.OwnWp.istore K at_17 (Ls' := #[.val (.int p0), .val (.int p1), .val (.int p2), .val (.int (1 : Int32)), .val (.int (0 : Int32)), .val (.int (1 : Int32)), .unset, .unset, .unset, .unset]) rfl (pc' := 19) rfl ?_
        refine Jvm.OwnWp.iloadN K at_19 rfl (pc' := 20) rfl ?_
        refine Jvm.OwnWp.ldcI K (wd0 hw) at_20 (pc' := 22) rfl ?_
        refine Jvm.OwnWp.iand K at_22 (pc' := 23) rfl ?_
        refine Jvm.OwnWp.iconst K (5 : Int32) at_23 (by decide) (pc' := 24) rfl ?_
        refine Jvm.OwnWp.irem K at_24 (by decide) (pc' := 25) rfl ?_
        rw [qk]
        refine Jvm.OwnWp.istore K at_25 (Ls' := #[.val (.int p0), .val (.int p1), .val (.int p2), .val (.int (1 : Int32)), .val (.int (0 : Int32)), .val (.int (1 : Int32)), .val (.int (4 : Int32)), .unset, .unset, .unset]) rfl (pc' := 27) rfl ?_
        refine newObj K (wd1 hw) (wd2 hw) (wd3 hw) at_27 (by decide) (by decide) (pc' := 30) rfl ?_
        intro h170 b170 g170 E170 A170 D170
        have lt_b170 : h0.size ≤ b170 := Nat.le_trans P0.1 (Nat.le_of_eq g170.symm)
        have ge_b170 : n0 ≤ b170 := Nat.le_trans Z0 lt_b170
        have P170 := (P0.ext E170)
        have F170_gain_b170 : Fld Z h170 b170 "com/example/sightline/sightline/checker/ByActivity" "gain" "D" (.double (0 : UInt64)) := D170 (Or.inl (wd11 hw)) (ty := .double) (by decide)
        have F170_choices_b170 : Fld Z h170 b170 "com/example/sightline/sightline/checker/ByActivity" "choices" "I" (.int (0 : Int32)) := D170 (Or.inr (wd13 hw)) (ty := .int) (by decide)
        have F170_activity_b170 : Fld Z h170 b170 "com/example/sightline/sightline/checker/ByActivity" "activity" "[D" .null := D170 (Or.inl (wd24 hw)) (ty := (.array .double)) (by decide)
        have F170_heap_b170 : Fld Z h170 b170 "com/example/sightline/sightline/checker/ByActivity" "heap" "[I" .null := D170 (Or.inl (wd28 hw)) (ty := (.array .int)) (by decide)
        have F170_slot_b170 : Fld Z h170 b170 "com/example/sightline/sightline/checker/ByActivity" "slot" "[I" .null := D170 (Or.inl (wd30 hw)) (ty := (.array .int)) (by decide)
        have F170_count_b170 : Fld Z h170 b170 "com/example/sightline/sightline/checker/ByActivity" "count" "I" (.int (0 : Int32)) := D170 (Or.inl (wd42 hw)) (ty := .int) (by decide)
        refine Jvm.OwnWp.dup K at_30 rfl (pc' := 31) rfl ?_
        refine Jvm.OwnWp.iconst K (2 : Int32) at_31 (by decide) (pc' := 32) rfl ?_
        refine callInit K (y := (⟨"com/example/sightline/sightline/checker/ByActivity", "<init>", "(I)V"⟩ : MethodName)) (b := b170) (argsL := [(.int (2 : Int32))]) (S := [(.ref b170)]) rfl (wd4 hw) (wd5 hw) (wd3 hw) (wd6 hw) rfl (by decide) (c_init l Z a0 hw [] b170 2 h170 n0 (Nat.le_trans Z0 P170.1) A170 ge_b170 F170_gain_b170 F170_choices_b170 F170_activity_b170 F170_heap_b170 F170_slot_b170 F170_count_b170) (lenOf pd1 rfl) at_32 rfl (Nat.le_of_ble_eq_true rfl) (Nat.le_of_ble_eq_true rfl) (Nat.le_of_ble_eq_true rfl) (Nat.le_of_ble_eq_true rfl) rfl (pc' := 35) rfl ?_
        rintro v171 h171 ⟨rfl, K171, I171_gain, I171_choices, I171_activity, I171_heap, I171_slot, I171_count⟩
        have X171_b170 := (Exa.keep A170 K171)
        have P171 := (P170.trans K171 (allS (Or.inr lt_b170) (all0)))
        show Go _ _ _ _ _ _ _ _ _ _ _ h171 1 6 (mkF m 35 #[.val (.int p0), .val (.int p1), .val (.int p2), .val (.int (1 : Int32)), .val (.int (0 : Int32)), .val (.int (1 : Int32)), .val (.int (4 : Int32)), .unset, .unset, .unset] [(.ref b170)]) _
        refine Jvm.OwnWp.astore K at_35 rfl (Ls' := #[.val (.int p0), .val (.int p1), .val (.int p2), .val (.int (1 : Int32)), .val (.int (0 : Int32)), .val (.int (1 : Int32)), .val (.int (4 : Int32)), .val (.ref b170), .unset, .unset]) rfl (pc' := 37) rfl ?_
        refine Jvm.OwnWp.aload K at_37 rfl rfl (pc' := 39) rfl ?_
        refine Jvm.OwnWp.iloadN K at_39 rfl (pc' := 40) rfl ?_
        refine Jvm.OwnWp.iload K at_40 rfl (pc' := 42) rfl ?_
        refine callStatic K (y := (⟨"com/example/sightline/sightline/checker/ByActivityDecayPinLaw", "bumps", "(Lcom/example/sightline/sightline/checker/ByActivity;II)V"⟩ : MethodName)) (argsL := [(.ref b170), (.int (1 : Int32)), (.int (1 : Int32))]) (S := []) (wd14 hw) (wd15 hw) (wd16 hw) (wd17 hw) (by decide) (c_b11 l Z a0 hw [] b170 h171 n0 (Nat.le_trans Z0 P171.1) X171_b170 I171_activity I171_heap I171_slot I171_count I171_gain I171_choices ge_b170) (lenOf pd4 rfl) at_42 rfl (Nat.le_of_ble_eq_true rfl) (Nat.le_of_ble_eq_true rfl) (Nat.le_of_ble_eq_true rfl) (Nat.le_of_ble_eq_true rfl) rfl (pc' := 45) rfl ?_
        rintro v172 h172 ⟨rfl, K172, ka, ha, sa, Hl, Sl, zk, zh, zs, ne_ha_ka, ne_sa_ka, ne_sa_ha, wf, rt, Q172_E, Q172_F_act, Q172_F_heap, Q172_F_slot, Q172_F_count, Q172_F_gain, Q172_F_choices, Q172_VA, Q172_VH, Q172_VS⟩
        have ne_b170_ka : b170 ≠ ka := Nat.ne_of_lt (Nat.lt_of_lt_of_le (Exa.lt X171_b170) zk)
        have lt_ka : h0.size ≤ ka := Nat.le_trans P171.1 zk
        have ge_ka : n0 ≤ ka := Nat.le_trans Z0 lt_ka
        have ne_b170_ha : b170 ≠ ha := Nat.ne_of_lt (Nat.lt_of_lt_of_le (Exa.lt X171_b170) zh)
        have lt_ha : h0.size ≤ ha := Nat.le_trans P171.1 zh
        have ge_ha : n0 ≤ ha := Nat.le_trans Z0 lt_ha
        have ne_b170_sa : b170 ≠ sa := Nat.ne_of_lt (Nat.lt_of_lt_of_le (Exa.lt X171_b170) zs)
        have lt_sa : h0.size ≤ sa := Nat.le_trans P171.1 zs
        have ge_sa : n0 ≤ sa := Nat.le_trans Z0 lt_sa
        have X172_b170 := (Exa.keep X171_b170 K172)
        have P172 := (P171.trans K172 (allS (Or.inr lt_b170) (all0)))
        show Go _ _ _ _ _ _ _ _ _ _ _ h172 4 21 (mkF m 45 #[.val (.int p0), .val (.int p1), .val (.int p2), .val (.int (1 : Int32)), .val (.int (0 : Int32)), .val (.int (1 : Int32)), .val (.int (4 : Int32)), .val (.ref b170), .unset, .unset] []) _
        refine Jvm.OwnWp.aload K at_45 rfl rfl (pc' := 47) rfl ?_
        refine Jvm.OwnWp.iload K at_47 rfl (pc' := 49) rfl ?_
        refine callStatic K (y := (⟨"com/example/sightline/sightline/checker/ByActivityDecayPinLaw", "decays", "(Lcom/example/sightline/sightline/checker/ByActivity;I)V"⟩ : MethodName)) (argsL := [(.ref b170), (.int (4 : Int32))]) (S := []) (wd51 hw) (wd52 hw) (wd16 hw) (wd53 hw) (by decide) (c_dec4 l Z a0 hw [] b170 ka ha sa h172 n0 (Nat.le_trans Z0 P172.1) Q172_E Q172_F_act Q172_F_heap Q172_F_slot Q172_F_count Q172_F_gain Q172_F_choices ge_b170) (lenOf pd5 rfl) at_49 rfl (Nat.le_of_ble_eq_true rfl) (Nat.le_of_ble_eq_true rfl) (Nat.le_of_ble_eq_true rfl) (Nat.le_of_ble_eq_true rfl) rfl (pc' := 52) rfl ?_
        rintro v173 h173 ⟨rfl, K173, Q173_F_act, Q173_F_heap, Q173_F_slot, Q173_F_count, Q173_F_gain, Q173_F_choices⟩
        have X173_b170 := (Exa.keep Q172_E K173)
        have V173_ka := (Q172_VA.keep K173 (ninS (Ne.symm ne_b170_ka) (nin0)))
        have V173_ha := (Q172_VH.keep K173 (ninS (Ne.symm ne_b170_ha) (nin0)))
        have V173_sa := (Q172_VS.keep K173 (ninS (Ne.symm ne_b170_sa) (nin0)))
        have P173 := (P172.trans K173 (allS (Or.inr lt_b170) (all0)))
        show Go _ _ _ _ _ _ _ _ _ _ _ h173 4 21 (mkF m 52 #[.val (.int p0), .val (.int p1), .val (.int p2), .val (.int (1 : Int32)), .val (.int (0 : Int32)), .val (.int (1 : Int32)), .val (.int (4 : Int32)), .val (.ref b170), .unset, .unset] []) _
        refine Jvm.OwnWp.aload K at_52 rfl rfl (pc' := 54) rfl ?_
        refine Jvm.OwnWp.iload K at_54 rfl (pc' := 56) rfl ?_
        refine callVirt K (y := (⟨"com/example/sightline/sightline/checker/ByActivity", "bump", "(I)V"⟩ : MethodName)) (b := b170) (argsL := [(.int (0 : Int32))]) (S := []) (wd18 hw) (wd19 hw) (wd21 hw) (wd20 hw) (wd3 hw) (wd22 hw) (by decide) X173_b170 (c_bumpN l Z a0 hw [] b170 ka ha sa 2 1 4616375314166007746 [0, 4607182418800017408] Hl Sl 0 h173 n0 (Nat.le_trans Z0 P173.1) rfl wf.1 wf.2.1 (by decide) (by decide) wf.2.2.2.1 (by decide) (by decide) (Jvm.Free.Fl.val64_no.mpr (by decide +kernel)) (by decide +kernel) (abs1 wf rt (by decide) (by decide)) X173_b170 Q173_F_act Q173_F_heap Q173_F_slot Q173_F_count Q173_F_gain Q173_F_choices V173_ka V173_ha V173_sa (Ne.symm ne_b170_ka) (Ne.symm ne_b170_ha) (Ne.symm ne_b170_sa) ne_ha_ka ne_sa_ka ne_sa_ha ge_b170 ge_ka ge_ha ge_sa) (lenOf pd1 rfl) at_56 rfl (Nat.le_of_ble_eq_true rfl) (Nat.le_of_ble_eq_true rfl) (Nat.le_of_ble_eq_true rfl) (Nat.le_of_ble_eq_true rfl) rfl (pc' := 59) rfl ?_
        rintro v174 h174 ⟨rfl, K174, Q174_E, Q174_F_act, Q174_F_heap, Q174_F_slot, Q174_F_count, Q174_F_gain, Q174_F_choices, Q174_VA, Q174_VH, Q174_VS⟩
        have X174_b170 := (Exa.keep X173_b170 K174)
        have P174 := (P173.trans K174 (allS (Or.inr lt_b170) (allS (Or.inr lt_ka) (allS (Or.inr lt_ha) (allS (Or.inr lt_sa) (all0))))))
        show Go _ _ _ _ _ _ _ _ _ _ _ h174 4 21 (mkF m 59 #[.val (.int p0), .val (.int p1), .val (.int p2), .val (.int (1 : Int32)), .val (.int (0 : Int32)), .val (.int (1 : Int32)), .val (.int (4 : Int32)), .val (.ref b170), .unset, .unset] []) _
        rw [show ([0, 4607182418800017408].set 0 (FP.dadd ([0, 4607182418800017408].getD 0 0) 4616375314166007746)) = [4616375314166007746, 4607182418800017408] from (by decide +kernel)] at Q174_VA Q174_VH Q174_VS
        have hA2 : Nums [4616375314166007746, 4607182418800017408] := nums2 (by unfold Jvm.OwnHeap.Num; decide +kernel) (by unfold Jvm.OwnHeap.Num; decide +kernel)
        have wf2 := (push_spec (by decide) hA2 wf ord1 (by decide) (by decide : 0 < 2) (abs1 wf rt (by decide) (by decide))).1
        have rt2 := push_root (A := [4616375314166007746, 4607182418800017408]) (c := 0) (S := Sl) wf.1 rt
        rw [if_pos (by decide +kernel)] at rt2
        generalize pushB [4616375314166007746, 4607182418800017408] 0 Hl Sl 1 = U174 at *
        have Q174_F_count : Fld Z h174 b170 "com/example/sightline/sightline/checker/ByActivity" "count" "I" (.int (Int32.ofNat 2)) := Q174_F_count
        refine Jvm.OwnWp.iload K at_59 rfl (pc' := 61) rfl ?_
        refine Jvm.OwnWp.iconst K (1 : Int32) at_61 (by decide) (pc' := 62) rfl ?_
        refine icN K at_62 (by decide) (pc' := 65) rfl ?_
        refine Jvm.OwnWp.iload K at_65 rfl (pc' := 67) rfl ?_
        refine Jvm.OwnWp.iconst K (1 : Int32) at_67 (by decide) (pc' := 68) rfl ?_
        refine icY K at_68 (by decide) (pc' := 95) (by decide) (by decide) ?_
        refine Jvm.OwnWp.iconst K (1 : Int32) at_95 (by decide) (pc' := 96) rfl ?_
        refine goto' K at_96 (pc' := 100) (by decide) (by decide) ?_
        refine Jvm.OwnWp.istore K at_100 (Ls' := #[.val (.int p0), .val (.int p1), .val (.int p2), .val (.int (1 : Int32)), .val (.int (0 : Int32)), .val (.int (1 : Int32)), .val (.int (4 : Int32)), .val (.ref b170), .val (.int (1 : Int32)), .unset]) rfl (pc' := 102) rfl ?_
        refine Jvm.OwnWp.iload K at_102 rfl (pc' := 104) rfl ?_
        refine ifN K at_104 (by decide) (pc' := 107) rfl ?_
        refine Jvm.OwnWp.iload K at_107 rfl (pc' := 109) rfl ?_
        refine goto' K at_109 (pc' := 113) (by decide) (by decide) ?_
        refine Jvm.OwnWp.istore K at_113 (Ls' := #[.val (.int p0), .val (.int p1), .val (.int p2), .val (.int (1 : Int32)), .val (.int (0 : Int32)), .val (.int (1 : Int32)), .val (.int (4 : Int32)), .val (.ref b170), .val (.int (1 : Int32)), .val (.int (0 : Int32))]) rfl (pc' := 115) rfl ?_
        refine Jvm.OwnWp.aload K at_115 rfl rfl (pc' := 117) rfl ?_
        refine callVirt K (y := (⟨"com/example/sightline/sightline/checker/ByActivity", "pop", "()I"⟩ : MethodName)) (b := b170) (argsL := []) (S := []) (wd60 hw) (wd61 hw) (wd63 hw) (wd62 hw) (wd3 hw) (wd64 hw) (by decide) Q174_E (c_pop l Z a0 hw [] b170 ka ha sa 2 2 4616375314166007746 [4616375314166007746, 4607182418800017408] U174.1 U174.2 h174 n0 (Nat.le_trans Z0 P174.1) rfl wf2.1 wf2.2.1 (by decide) (by decide) wf2.2.2.2.1 (by decide) (by decide) Q174_E Q174_F_act Q174_F_heap Q174_F_slot Q174_F_count Q174_F_gain Q174_F_choices Q174_VA Q174_VH Q174_VS (Ne.symm ne_b170_ka) (Ne.symm ne_b170_ha) (Ne.symm ne_b170_sa) ne_ha_ka ne_sa_ka ne_sa_ha ge_b170 ge_ka ge_ha ge_sa) (lenOf pd6 rfl) at_117 rfl (Nat.le_of_ble_eq_true rfl) (Nat.le_of_ble_eq_true rfl) (Nat.le_of_ble_eq_true rfl) (Nat.le_of_ble_eq_true rfl) rfl (pc' := 120) rfl ?_
        rintro v175 h175 ⟨rfl, K175, Q175_E, Q175_F_act, Q175_F_heap, Q175_F_slot, Q175_F_count, Q175_F_gain, Q175_F_choices, Q175_VA, Q175_VH, Q175_VS⟩
        have X175_b170 := (Exa.keep Q174_E K175)
        have V175_ka := (Q174_VA.keep K175 (ninS (Ne.symm ne_b170_ka) (ninS (Ne.symm ne_ha_ka) (ninS (Ne.symm ne_sa_ka) (nin0)))))
        have P175 := (P174.trans K175 (allS (Or.inr lt_b170) (allS (Or.inr lt_ha) (allS (Or.inr lt_sa) (all0)))))
        show Go _ _ _ _ _ _ _ _ _ _ _ h175 4 21 (mkF m 120 #[.val (.int p0), .val (.int p1), .val (.int p2), .val (.int (1 : Int32)), .val (.int (0 : Int32)), .val (.int (1 : Int32)), .val (.int (4 : Int32)), .val (.ref b170), .val (.int (1 : Int32)), .val (.int (0 : Int32))] [(.int (Int32.ofNat (U174.1.getD 0 0)))]) _
        rw [rt2, show Int32.ofNat 0 = 0 from rfl]
        refine Jvm.OwnWp.iload K at_120 rfl (pc' := 122) rfl ?_
        refine icN K at_122 (by decide) (pc' := 125) rfl ?_
        refine Jvm.OwnWp.iconst K (1 : Int32) at_125 (by decide) (pc' := 126) rfl ?_
        refine goto' K at_126 (pc' := 130) (by decide) (by decide) ?_
        refine retB K (t := .boolean) rfl (by simp) at_130 (Nat.le_of_ble_eq_true rfl) (Nat.le_of_ble_eq_true rfl) ?_
        rfl
    · rcases own_k p2 with qk | qk | qk | qk | qk
      · refine Jvm.OwnWp.iloadN K at_0 rfl (pc' := 1) rfl ?_
        refine Jvm.OwnWp.iconst K (1 : Int32) at_1 (by decide) (pc' := 2) rfl ?_
        refine Jvm.OwnWp.iand K at_2 (pc' := 3) rfl ?_
        rw [qa]
        refine Jvm.OwnWp.istoreN K at_3 (Ls' := #[.val (.int p0), .val (.int p1), .val (.int p2), .val (.int (1 : Int32)), .unset, .unset, .unset, .unset, .unset, .unset]) rfl (pc' := 4) rfl ?_
        refine Jvm.OwnWp.iconst K (1 : Int32) at_4 (by decide) (pc' := 5) rfl ?_
        refine Jvm.OwnWp.iloadN K at_5 rfl (pc' := 6) rfl ?_
        refine Jvm.OwnWp.isub K at_6 (pc' := 7) rfl ?_
        rw [show (1 : Int32) - 1 = 0 by decide]
        refine Jvm.OwnWp.istore K at_7 (Ls' := #[.val (.int p0), .val (.int p1), .val (.int p2), .val (.int (1 : Int32)), .val (.int (0 : Int32)), .unset, .unset, .unset, .unset, .unset]) rfl (pc' := 9) rfl ?_
        refine Jvm.OwnWp.iconst K (1 : Int32) at_9 (by decide) (pc' := 10) rfl ?_
        refine Jvm.OwnWp.iloadN K at_10 rfl (pc' := 11) rfl ?_
        refine Jvm.OwnWp.ldcI K (wd0 hw) at_11 (pc' := 13) rfl ?_
        refine Jvm.OwnWp.iand K at_13 (pc' := 14) rfl ?_
        refine Jvm.OwnWp.iconst K (3 : Int32) at_14 (by decide) (pc' := 15) rfl ?_
        refine Jvm.OwnWp.irem K at_15 (by decide) (pc' := 16) rfl ?_
        rw [qm]
        refine Jvm.OwnWp.iadd K at_16 (pc' := 17) rfl ?_
        rw [show (1 : Int32) + 1 = 2 by decide]
        refine Jvm.OwnWp.istore K at_17 (Ls' := #[.val (.int p0), .val (.int p1), .val (.int p2), .val (.int (1 : Int32)), .val (.int (0 : Int32)), .val (.int (2 : Int32)), .unset, .unset, .unset, .unset]) rfl (pc' := 19) rfl ?_
        refine Jvm.OwnWp.iloadN K at_19 rfl (pc' := 20) rfl ?_
        refine Jvm.OwnWp.ldcI K (wd0 hw) at_20 (pc' := 22) rfl ?_
        refine Jvm.OwnWp.iand K at_22 (pc' := 23) rfl ?_
        refine Jvm.OwnWp.iconst K (5 : Int32) at_23 (by decide) (pc' := 24) rfl ?_
        refine Jvm.OwnWp.irem K at_24 (by decide) (pc' := 25) rfl ?_
        rw [qk]
        refine Jvm.OwnWp.istore K at_25 (Ls' := #[.val (.int p0), .val (.int p1), .val (.int p2), .val (.int (1 : Int32)), .val (.int (0 : Int32)), .val (.int (2 : Int32)), .val (.int (0 : Int32)), .unset, .unset, .unset]) rfl (pc' := 27) rfl ?_
        refine newObj K (wd1 hw) (wd2 hw) (wd3 hw) at_27 (by decide) (by decide) (pc' := 30) rfl ?_
        intro h176 b176 g176 E176 A176 D176
        have lt_b176 : h0.size ≤ b176 := Nat.le_trans P0.1 (Nat.le_of_eq g176.symm)
        have ge_b176 : n0 ≤ b176 := Nat.le_trans Z0 lt_b176
        have P176 := (P0.ext E176)
        have F176_gain_b176 : Fld Z h176 b176 "com/example/sightline/sightline/checker/ByActivity" "gain" "D" (.double (0 : UInt64)) := D176 (Or.inl (wd11 hw)) (ty := .double) (by decide)
        have F176_choices_b176 : Fld Z h176 b176 "com/example/sightline/sightline/checker/ByActivity" "choices" "I" (.int (0 : Int32)) := D176 (Or.inr (wd13 hw)) (ty := .int) (by decide)
        have F176_activity_b176 : Fld Z h176 b176 "com/example/sightline/sightline/checker/ByActivity" "activity" "[D" .null := D176 (Or.inl (wd24 hw)) (ty := (.array .double)) (by decide)
        have F176_heap_b176 : Fld Z h176 b176 "com/example/sightline/sightline/checker/ByActivity" "heap" "[I" .null := D176 (Or.inl (wd28 hw)) (ty := (.array .int)) (by decide)
        have F176_slot_b176 : Fld Z h176 b176 "com/example/sightline/sightline/checker/ByActivity" "slot" "[I" .null := D176 (Or.inl (wd30 hw)) (ty := (.array .int)) (by decide)
        have F176_count_b176 : Fld Z h176 b176 "com/example/sightline/sightline/checker/ByActivity" "count" "I" (.int (0 : Int32)) := D176 (Or.inl (wd42 hw)) (ty := .int) (by decide)
        refine Jvm.OwnWp.dup K at_30 rfl (pc' := 31) rfl ?_
        refine Jvm.OwnWp.iconst K (2 : Int32) at_31 (by decide) (pc' := 32) rfl ?_
        refine callInit K (y := (⟨"com/example/sightline/sightline/checker/ByActivity", "<init>", "(I)V"⟩ : MethodName)) (b := b176) (argsL := [(.int (2 : Int32))]) (S := [(.ref b176)]) rfl (wd4 hw) (wd5 hw) (wd3 hw) (wd6 hw) rfl (by decide) (c_init l Z a0 hw [] b176 2 h176 n0 (Nat.le_trans Z0 P176.1) A176 ge_b176 F176_gain_b176 F176_choices_b176 F176_activity_b176 F176_heap_b176 F176_slot_b176 F176_count_b176) (lenOf pd1 rfl) at_32 rfl (Nat.le_of_ble_eq_true rfl) (Nat.le_of_ble_eq_true rfl) (Nat.le_of_ble_eq_true rfl) (Nat.le_of_ble_eq_true rfl) rfl (pc' := 35) rfl ?_
        rintro v177 h177 ⟨rfl, K177, I177_gain, I177_choices, I177_activity, I177_heap, I177_slot, I177_count⟩
        have X177_b176 := (Exa.keep A176 K177)
        have P177 := (P176.trans K177 (allS (Or.inr lt_b176) (all0)))
        show Go _ _ _ _ _ _ _ _ _ _ _ h177 1 6 (mkF m 35 #[.val (.int p0), .val (.int p1), .val (.int p2), .val (.int (1 : Int32)), .val (.int (0 : Int32)), .val (.int (2 : Int32)), .val (.int (0 : Int32)), .unset, .unset, .unset] [(.ref b176)]) _
        refine Jvm.OwnWp.astore K at_35 rfl (Ls' := #[.val (.int p0), .val (.int p1), .val (.int p2), .val (.int (1 : Int32)), .val (.int (0 : Int32)), .val (.int (2 : Int32)), .val (.int (0 : Int32)), .val (.ref b176), .unset, .unset]) rfl (pc' := 37) rfl ?_
        refine Jvm.OwnWp.aload K at_37 rfl rfl (pc' := 39) rfl ?_
        refine Jvm.OwnWp.iloadN K at_39 rfl (pc' := 40) rfl ?_
        refine Jvm.OwnWp.iload K at_40 rfl (pc' := 42) rfl ?_
        refine callStatic K (y := (⟨"com/example/sightline/sightline/checker/ByActivityDecayPinLaw", "bumps", "(Lcom/example/sightline/sightline/checker/ByActivity;II)V"⟩ : MethodName)) (argsL := [(.ref b176), (.int (1 : Int32)), (.int (2 : Int32))]) (S := []) (wd14 hw) (wd15 hw) (wd16 hw) (wd17 hw) (by decide) (c_b12 l Z a0 hw [] b176 h177 n0 (Nat.le_trans Z0 P177.1) X177_b176 I177_activity I177_heap I177_slot I177_count I177_gain I177_choices ge_b176) (lenOf pd4 rfl) at_42 rfl (Nat.le_of_ble_eq_true rfl) (Nat.le_of_ble_eq_true rfl) (Nat.le_of_ble_eq_true rfl) (Nat.le_of_ble_eq_true rfl) rfl (pc' := 45) rfl ?_
        rintro v178 h178 ⟨rfl, K178, ka, ha, sa, Hl, Sl, zk, zh, zs, ne_ha_ka, ne_sa_ka, ne_sa_ha, wf, rt, Q178_E, Q178_F_act, Q178_F_heap, Q178_F_slot, Q178_F_count, Q178_F_gain, Q178_F_choices, Q178_VA, Q178_VH, Q178_VS⟩
        have ne_b176_ka : b176 ≠ ka := Nat.ne_of_lt (Nat.lt_of_lt_of_le (Exa.lt X177_b176) zk)
        have lt_ka : h0.size ≤ ka := Nat.le_trans P177.1 zk
        have ge_ka : n0 ≤ ka := Nat.le_trans Z0 lt_ka
        have ne_b176_ha : b176 ≠ ha := Nat.ne_of_lt (Nat.lt_of_lt_of_le (Exa.lt X177_b176) zh)
        have lt_ha : h0.size ≤ ha := Nat.le_trans P177.1 zh
        have ge_ha : n0 ≤ ha := Nat.le_trans Z0 lt_ha
        have ne_b176_sa : b176 ≠ sa := Nat.ne_of_lt (Nat.lt_of_lt_of_le (Exa.lt X177_b176) zs)
        have lt_sa : h0.size ≤ sa := Nat.le_trans P177.1 zs
        have ge_sa : n0 ≤ sa := Nat.le_trans Z0 lt_sa
        have X178_b176 := (Exa.keep X177_b176 K178)
        have P178 := (P177.trans K178 (allS (Or.inr lt_b176) (all0)))
        show Go _ _ _ _ _ _ _ _ _ _ _ h178 4 21 (mkF m 45 #[.val (.int p0), .val (.int p1), .val (.int p2), .val (.int (1 : Int32)), .val (.int (0 : Int32)), .val (.int (2 : Int32)), .val (.int (0 : Int32)), .val (.ref b176), .unset, .unset] []) _
        refine Jvm.OwnWp.aload K at_45 rfl rfl (pc' := 47) rfl ?_
        refine Jvm.OwnWp.iload K at_47 rfl (pc' := 49) rfl ?_
        refine callStatic K (y := (⟨"com/example/sightline/sightline/checker/ByActivityDecayPinLaw", "decays", "(Lcom/example/sightline/sightline/checker/ByActivity;I)V"⟩ : MethodName)) (argsL := [(.ref b176), (.int (0 : Int32))]) (S := []) (wd51 hw) (wd52 hw) (wd16 hw) (wd53 hw) (by decide) (c_dec0 l Z a0 hw [] b176 ka ha sa h178 n0 (Nat.le_trans Z0 P178.1) Q178_E Q178_F_act Q178_F_heap Q178_F_slot Q178_F_count Q178_F_gain Q178_F_choices ge_b176) (lenOf pd5 rfl) at_49 rfl (Nat.le_of_ble_eq_true rfl) (Nat.le_of_ble_eq_true rfl) (Nat.le_of_ble_eq_true rfl) (Nat.le_of_ble_eq_true rfl) rfl (pc' := 52) rfl ?_
        rintro v179 h179 ⟨rfl, K179, Q179_F_act, Q179_F_heap, Q179_F_slot, Q179_F_count, Q179_F_gain, Q179_F_choices⟩
        have X179_b176 := (Exa.keep Q178_E K179)
        have V179_ka := (Q178_VA.keep K179 (ninS (Ne.symm ne_b176_ka) (nin0)))
        have V179_ha := (Q178_VH.keep K179 (ninS (Ne.symm ne_b176_ha) (nin0)))
        have V179_sa := (Q178_VS.keep K179 (ninS (Ne.symm ne_b176_sa) (nin0)))
        have P179 := (P178.trans K179 (allS (Or.inr lt_b176) (all0)))
        show Go _ _ _ _ _ _ _ _ _ _ _ h179 4 21 (mkF m 52 #[.val (.int p0), .val (.int p1), .val (.int p2), .val (.int (1 : Int32)), .val (.int (0 : Int32)), .val (.int (2 : Int32)), .val (.int (0 : Int32)), .val (.ref b176), .unset, .unset] []) _
        refine Jvm.OwnWp.aload K at_52 rfl rfl (pc' := 54) rfl ?_
        refine Jvm.OwnWp.iload K at_54 rfl (pc' := 56) rfl ?_
        refine callVirt K (y := (⟨"com/example/sightline/sightline/checker/ByActivity", "bump", "(I)V"⟩ : MethodName)) (b := b176) (argsL := [(.int (0 : Int32))]) (S := []) (wd18 hw) (wd19 hw) (wd21 hw) (wd20 hw) (wd3 hw) (wd22 hw) (by decide) X179_b176 (c_bumpN l Z a0 hw [] b176 ka ha sa 2 1 4607182418800017408 [0, 4611686018427387904] Hl Sl 0 h179 n0 (Nat.le_trans Z0 P179.1) rfl wf.1 wf.2.1 (by decide) (by decide) wf.2.2.2.1 (by decide) (by decide) (Jvm.Free.Fl.val64_no.mpr (by decide +kernel)) (by decide +kernel) (abs1 wf rt (by decide) (by decide)) X179_b176 Q179_F_act Q179_F_heap Q179_F_slot Q179_F_count Q179_F_gain Q179_F_choices V179_ka V179_ha V179_sa (Ne.symm ne_b176_ka) (Ne.symm ne_b176_ha) (Ne.symm ne_b176_sa) ne_ha_ka ne_sa_ka ne_sa_ha ge_b176 ge_ka ge_ha ge_sa) (lenOf pd1 rfl) at_56 rfl (Nat.le_of_ble_eq_true rfl) (Nat.le_of_ble_eq_true rfl) (Nat.le_of_ble_eq_true rfl) (Nat.le_of_ble_eq_true rfl) rfl (pc' := 59) rfl ?_
        rintro v180 h180 ⟨rfl, K180, Q180_E, Q180_F_act, Q180_F_heap, Q180_F_slot, Q180_F_count, Q180_F_gain, Q180_F_choices, Q180_VA, Q180_VH, Q180_VS⟩
        have X180_b176 := (Exa.keep X179_b176 K180)
        have P180 := (P179.trans K180 (allS (Or.inr lt_b176) (allS (Or.inr lt_ka) (allS (Or.inr lt_ha) (allS (Or.inr lt_sa) (all0))))))
        show Go _ _ _ _ _ _ _ _ _ _ _ h180 4 21 (mkF m 59 #[.val (.int p0), .val (.int p1), .val (.int p2), .val (.int (1 : Int32)), .val (.int (0 : Int32)), .val (.int (2 : Int32)), .val (.int (0 : Int32)), .val (.ref b176), .unset, .unset] []) _
        rw [show ([0, 4611686018427387904].set 0 (FP.dadd ([0, 4611686018427387904].getD 0 0) 4607182418800017408)) = [4607182418800017408, 4611686018427387904] from (by decide +kernel)] at Q180_VA Q180_VH Q180_VS
        have hA2 : Nums [4607182418800017408, 4611686018427387904] := nums2 (by unfold Jvm.OwnHeap.Num; decide +kernel) (by unfold Jvm.OwnHeap.Num; decide +kernel)
        have wf2 := (push_spec (by decide) hA2 wf ord1 (by decide) (by decide : 0 < 2) (abs1 wf rt (by decide) (by decide))).1
        have rt2 := push_root (A := [4607182418800017408, 4611686018427387904]) (c := 0) (S := Sl) wf.1 rt
        rw [if_neg (by decide +kernel)] at rt2
        generalize pushB [4607182418800017408, 4611686018427387904] 0 Hl Sl 1 = U180 at *
        have Q180_F_count : Fld Z h180 b176 "com/example/sightline/sightline/checker/ByActivity" "count" "I" (.int (Int32.ofNat 2)) := Q180_F_count
        refine Jvm.OwnWp.iload K at_59 rfl (pc' := 61) rfl ?_
        refine Jvm.OwnWp.iconst K (1 : Int32) at_61 (by decide) (pc' := 62) rfl ?_
        refine icY K at_62 (by decide) (pc' := 71) (by decide) (by decide) ?_
        refine Jvm.OwnWp.iload K at_71 rfl (pc' := 73) rfl ?_
        refine Jvm.OwnWp.iconst K (2 : Int32) at_73 (by decide) (pc' := 74) rfl ?_
        refine icN K at_74 (by decide) (pc' := 77) rfl ?_
        refine Jvm.OwnWp.iload K at_77 rfl (pc' := 79) rfl ?_
        refine Jvm.OwnWp.iconst K (2 : Int32) at_79 (by decide) (pc' := 80) rfl ?_
        refine icN K at_80 (by decide) (pc' := 83) rfl ?_
        refine Jvm.OwnWp.iload K at_83 rfl (pc' := 85) rfl ?_
        refine Jvm.OwnWp.iconst K (3 : Int32) at_85 (by decide) (pc' := 86) rfl ?_
        refine icY K at_86 (by decide) (pc' := 99) (by decide) (by decide) ?_
        refine Jvm.OwnWp.iconst K (0 : Int32) at_99 (by decide) (pc' := 100) rfl ?_
        refine Jvm.OwnWp.istore K at_100 (Ls' := #[.val (.int p0), .val (.int p1), .val (.int p2), .val (.int (1 : Int32)), .val (.int (0 : Int32)), .val (.int (2 : Int32)), .val (.int (0 : Int32)), .val (.ref b176), .val (.int (0 : Int32)), .unset]) rfl (pc' := 102) rfl ?_
        refine Jvm.OwnWp.iload K at_102 rfl (pc' := 104) rfl ?_
        refine ifY K at_104 (by decide) (pc' := 112) (by decide) (by decide) ?_
        refine Jvm.OwnWp.iloadN K at_112 rfl (pc' := 113) rfl ?_
        refine Jvm.OwnWp.istore K at_113 (Ls' := #[.val (.int p0), .val (.int p1), .val (.int p2), .val (.int (1 : Int32)), .val (.int (0 : Int32)), .val (.int (2 : Int32)), .val (.int (0 : Int32)), .val (.ref b176), .val (.int (0 : Int32)), .val (.int (1 : Int32))]) rfl (pc' := 115) rfl ?_
        refine Jvm.OwnWp.aload K at_115 rfl rfl (pc' := 117) rfl ?_
        refine callVirt K (y := (⟨"com/example/sightline/sightline/checker/ByActivity", "pop", "()I"⟩ : MethodName)) (b := b176) (argsL := []) (S := []) (wd60 hw) (wd61 hw) (wd63 hw) (wd62 hw) (wd3 hw) (wd64 hw) (by decide) Q180_E (c_pop l Z a0 hw [] b176 ka ha sa 2 2 4607182418800017408 [4607182418800017408, 4611686018427387904] U180.1 U180.2 h180 n0 (Nat.le_trans Z0 P180.1) rfl wf2.1 wf2.2.1 (by decide) (by decide) wf2.2.2.2.1 (by decide) (by decide) Q180_E Q180_F_act Q180_F_heap Q180_F_slot Q180_F_count Q180_F_gain Q180_F_choices Q180_VA Q180_VH Q180_VS (Ne.symm ne_b176_ka) (Ne.symm ne_b176_ha) (Ne.symm ne_b176_sa) ne_ha_ka ne_sa_ka ne_sa_ha ge_b176 ge_ka ge_ha ge_sa) (lenOf pd6 rfl) at_117 rfl (Nat.le_of_ble_eq_true rfl) (Nat.le_of_ble_eq_true rfl) (Nat.le_of_ble_eq_true rfl) (Nat.le_of_ble_eq_true rfl) rfl (pc' := 120) rfl ?_
        rintro v181 h181 ⟨rfl, K181, Q181_E, Q181_F_act, Q181_F_heap, Q181_F_slot, Q181_F_count, Q181_F_gain, Q181_F_choices, Q181_VA, Q181_VH, Q181_VS⟩
        have X181_b176 := (Exa.keep Q180_E K181)
        have V181_ka := (Q180_VA.keep K181 (ninS (Ne.symm ne_b176_ka) (ninS (Ne.symm ne_ha_ka) (ninS (Ne.symm ne_sa_ka) (nin0)))))
        have P181 := (P180.trans K181 (allS (Or.inr lt_b176) (allS (Or.inr lt_ha) (allS (Or.inr lt_sa) (all0)))))
        show Go _ _ _ _ _ _ _ _ _ _ _ h181 4 21 (mkF m 120 #[.val (.int p0), .val (.int p1), .val (.int p2), .val (.int (1 : Int32)), .val (.int (0 : Int32)), .val (.int (2 : Int32)), .val (.int (0 : Int32)), .val (.ref b176), .val (.int (0 : Int32)), .val (.int (1 : Int32))] [(.int (Int32.ofNat (U180.1.getD 0 0)))]) _
        rw [rt2, show Int32.ofNat 1 = 1 from rfl]
        refine Jvm.OwnWp.iload K at_120 rfl (pc' := 122) rfl ?_
        refine icN K at_122 (by decide) (pc' := 125) rfl ?_
        refine Jvm.OwnWp.iconst K (1 : Int32) at_125 (by decide) (pc' := 126) rfl ?_
        refine goto' K at_126 (pc' := 130) (by decide) (by decide) ?_
        refine retB K (t := .boolean) rfl (by simp) at_130 (Nat.le_of_ble_eq_true rfl) (Nat.le_of_ble_eq_true rfl) ?_
        rfl
      · refine Jvm.OwnWp.iloadN K at_0 rfl (pc' := 1) rfl ?_
        refine Jvm.OwnWp.iconst K (1 : Int32) at_1 (by decide) (pc' := 2) rfl ?_
        refine Jvm.OwnWp.iand K at_2 (pc' := 3) rfl ?_
        rw [qa]
        refine Jvm.OwnWp.istoreN K at_3 (Ls' := #[.val (.int p0), .val (.int p1), .val (.int p2), .val (.int (1 : Int32)), .unset, .unset, .unset, .unset, .unset, .unset]) rfl (pc' := 4) rfl ?_
        refine Jvm.OwnWp.iconst K (1 : Int32) at_4 (by decide) (pc' := 5) rfl ?_
        refine Jvm.OwnWp.iloadN K at_5 rfl (pc' := 6) rfl ?_
        refine Jvm.OwnWp.isub K at_6 (pc' := 7) rfl ?_
        rw [show (1 : Int32) - 1 = 0 by decide]
        refine Jvm.OwnWp.istore K at_7 (Ls' := #[.val (.int p0), .val (.int p1), .val (.int p2), .val (.int (1 : Int32)), .val (.int (0 : Int32)), .unset, .unset, .unset, .unset, .unset]) rfl (pc' := 9) rfl ?_
        refine Jvm.OwnWp.iconst K (1 : Int32) at_9 (by decide) (pc' := 10) rfl ?_
        refine Jvm.OwnWp.iloadN K at_10 rfl (pc' := 11) rfl ?_
        refine Jvm.OwnWp.ldcI K (wd0 hw) at_11 (pc' := 13) rfl ?_
        refine Jvm.OwnWp.iand K at_13 (pc' := 14) rfl ?_
        refine Jvm.OwnWp.iconst K (3 : Int32) at_14 (by decide) (pc' := 15) rfl ?_
        refine Jvm.OwnWp.irem K at_15 (by decide) (pc' := 16) rfl ?_
        rw [qm]
        refine Jvm.OwnWp.iadd K at_16 (pc' := 17) rfl ?_
        rw [show (1 : Int32) + 1 = 2 by decide]
        refine Jvm.OwnWp.istore K at_17 (Ls' := #[.val (.int p0), .val (.int p1), .val (.int p2), .val (.int (1 : Int32)), .val (.int (0 : Int32)), .val (.int (2 : Int32)), .unset, .unset, .unset, .unset]) rfl (pc' := 19) rfl ?_
        refine Jvm.OwnWp.iloadN K at_19 rfl (pc' := 20) rfl ?_
        refine Jvm.OwnWp.ldcI K (wd0 hw) at_20 (pc' := 22) rfl ?_
        refine Jvm.OwnWp.iand K at_22 (pc' := 23) rfl ?_
        refine Jvm.OwnWp.iconst K (5 : Int32) at_23 (by decide) (pc' := 24) rfl ?_
        refine Jvm.OwnWp.irem K at_24 (by decide) (pc' := 25) rfl ?_
        rw [qk]
        refine Jvm.OwnWp.istore K at_25 (Ls' := #[.val (.int p0), .val (.int p1), .val (.int p2), .val (.int (1 : Int32)), .val (.int (0 : Int32)), .val (.int (2 : Int32)), .val (.int (1 : Int32)), .unset, .unset, .unset]) rfl (pc' := 27) rfl ?_
        refine newObj K (wd1 hw) (wd2 hw) (wd3 hw) at_27 (by decide) (by decide) (pc' := 30) rfl ?_
        intro h182 b182 g182 E182 A182 D182
        have lt_b182 : h0.size ≤ b182 := Nat.le_trans P0.1 (Nat.le_of_eq g182.symm)
        have ge_b182 : n0 ≤ b182 := Nat.le_trans Z0 lt_b182
        have P182 := (P0.ext E182)
        have F182_gain_b182 : Fld Z h182 b182 "com/example/sightline/sightline/checker/ByActivity" "gain" "D" (.double (0 : UInt64)) := D182 (Or.inl (wd11 hw)) (ty := .double) (by decide)
        have F182_choices_b182 : Fld Z h182 b182 "com/example/sightline/sightline/checker/ByActivity" "choices" "I" (.int (0 : Int32)) := D182 (Or.inr (wd13 hw)) (ty := .int) (by decide)
        have F182_activity_b182 : Fld Z h182 b182 "com/example/sightline/sightline/checker/ByActivity" "activity" "[D" .null := D182 (Or.inl (wd24 hw)) (ty := (.array .double)) (by decide)
        have F182_heap_b182 : Fld Z h182 b182 "com/example/sightline/sightline/checker/ByActivity" "heap" "[I" .null := D182 (Or.inl (wd28 hw)) (ty := (.array .int)) (by decide)
        have F182_slot_b182 : Fld Z h182 b182 "com/example/sightline/sightline/checker/ByActivity" "slot" "[I" .null := D182 (Or.inl (wd30 hw)) (ty := (.array .int)) (by decide)
        have F182_count_b182 : Fld Z h182 b182 "com/example/sightline/sightline/checker/ByActivity" "count" "I" (.int (0 : Int32)) := D182 (Or.inl (wd42 hw)) (ty := .int) (by decide)
        refine Jvm.OwnWp.dup K at_30 rfl (pc' := 31) rfl ?_
        refine Jvm.OwnWp.iconst K (2 : Int32) at_31 (by decide) (pc' := 32) rfl ?_
        refine callInit K (y := (⟨"com/example/sightline/sightline/checker/ByActivity", "<init>", "(I)V"⟩ : MethodName)) (b := b182) (argsL := [(.int (2 : Int32))]) (S := [(.ref b182)]) rfl (wd4 hw) (wd5 hw) (wd3 hw) (wd6 hw) rfl (by decide) (c_init l Z a0 hw [] b182 2 h182 n0 (Nat.le_trans Z0 P182.1) A182 ge_b182 F182_gain_b182 F182_choices_b182 F182_activity_b182 F182_heap_b182 F182_slot_b182 F182_count_b182) (lenOf pd1 rfl) at_32 rfl (Nat.le_of_ble_eq_true rfl) (Nat.le_of_ble_eq_true rfl) (Nat.le_of_ble_eq_true rfl) (Nat.le_of_ble_eq_true rfl) rfl (pc' := 35) rfl ?_
        rintro v183 h183 ⟨rfl, K183, I183_gain, I183_choices, I183_activity, I183_heap, I183_slot, I183_count⟩
        have X183_b182 := (Exa.keep A182 K183)
        have P183 := (P182.trans K183 (allS (Or.inr lt_b182) (all0)))
        show Go _ _ _ _ _ _ _ _ _ _ _ h183 1 6 (mkF m 35 #[.val (.int p0), .val (.int p1), .val (.int p2), .val (.int (1 : Int32)), .val (.int (0 : Int32)), .val (.int (2 : Int32)), .val (.int (1 : Int32)), .unset, .unset, .unset] [(.ref b182)]) _
        refine Jvm.OwnWp.astore K at_35 rfl (Ls' := #[.val (.int p0), .val (.int p1), .val (.int p2), .val (.int (1 : Int32)), .val (.int (0 : Int32)), .val (.int (2 : Int32)), .val (.int (1 : Int32)), .val (.ref b182), .unset, .unset]) rfl (pc' := 37) rfl ?_
        refine Jvm.OwnWp.aload K at_37 rfl rfl (pc' := 39) rfl ?_
        refine Jvm.OwnWp.iloadN K at_39 rfl (pc' := 40) rfl ?_
        refine Jvm.OwnWp.iload K at_40 rfl (pc' := 42) rfl ?_
        refine callStatic K (y := (⟨"com/example/sightline/sightline/checker/ByActivityDecayPinLaw", "bumps", "(Lcom/example/sightline/sightline/checker/ByActivity;II)V"⟩ : MethodName)) (argsL := [(.ref b182), (.int (1 : Int32)), (.int (2 : Int32))]) (S := []) (wd14 hw) (wd15 hw) (wd16 hw) (wd17 hw) (by decide) (c_b12 l Z a0 hw [] b182 h183 n0 (Nat.le_trans Z0 P183.1) X183_b182 I183_activity I183_heap I183_slot I183_count I183_gain I183_choices ge_b182) (lenOf pd4 rfl) at_42 rfl (Nat.le_of_ble_eq_true rfl) (Nat.le_of_ble_eq_true rfl) (Nat.le_of_ble_eq_true rfl) (Nat.le_of_ble_eq_true rfl) rfl (pc' := 45) rfl ?_
        rintro v184 h184 ⟨rfl, K184, ka, ha, sa, Hl, Sl, zk, zh, zs, ne_ha_ka, ne_sa_ka, ne_sa_ha, wf, rt, Q184_E, Q184_F_act, Q184_F_heap, Q184_F_slot, Q184_F_count, Q184_F_gain, Q184_F_choices, Q184_VA, Q184_VH, Q184_VS⟩
        have ne_b182_ka : b182 ≠ ka := Nat.ne_of_lt (Nat.lt_of_lt_of_le (Exa.lt X183_b182) zk)
        have lt_ka : h0.size ≤ ka := Nat.le_trans P183.1 zk
        have ge_ka : n0 ≤ ka := Nat.le_trans Z0 lt_ka
        have ne_b182_ha : b182 ≠ ha := Nat.ne_of_lt (Nat.lt_of_lt_of_le (Exa.lt X183_b182) zh)
        have lt_ha : h0.size ≤ ha := Nat.le_trans P183.1 zh
        have ge_ha : n0 ≤ ha := Nat.le_trans Z0 lt_ha
        have ne_b182_sa : b182 ≠ sa := Nat.ne_of_lt (Nat.lt_of_lt_of_le (Exa.lt X183_b182) zs)
        have lt_sa : h0.size ≤ sa := Nat.le_trans P183.1 zs
        have ge_sa : n0 ≤ sa := Nat.le_trans Z0 lt_sa
        have X184_b182 := (Exa.keep X183_b182 K184)
        have P184 := (P183.trans K184 (allS (Or.inr lt_b182) (all0)))
        show Go _ _ _ _ _ _ _ _ _ _ _ h184 4 21 (mkF m 45 #[.val (.int p0), .val (.int p1), .val (.int p2), .val (.int (1 : Int32)), .val (.int (0 : Int32)), .val (.int (2 : Int32)), .val (.int (1 : Int32)), .val (.ref b182), .unset, .unset] []) _
        refine Jvm.OwnWp.aload K at_45 rfl rfl (pc' := 47) rfl ?_
        refine Jvm.OwnWp.iload K at_47 rfl (pc' := 49) rfl ?_
        refine callStatic K (y := (⟨"com/example/sightline/sightline/checker/ByActivityDecayPinLaw", "decays", "(Lcom/example/sightline/sightline/checker/ByActivity;I)V"⟩ : MethodName)) (argsL := [(.ref b182), (.int (1 : Int32))]) (S := []) (wd51 hw) (wd52 hw) (wd16 hw) (wd53 hw) (by decide) (c_dec1 l Z a0 hw [] b182 ka ha sa h184 n0 (Nat.le_trans Z0 P184.1) Q184_E Q184_F_act Q184_F_heap Q184_F_slot Q184_F_count Q184_F_gain Q184_F_choices ge_b182) (lenOf pd5 rfl) at_49 rfl (Nat.le_of_ble_eq_true rfl) (Nat.le_of_ble_eq_true rfl) (Nat.le_of_ble_eq_true rfl) (Nat.le_of_ble_eq_true rfl) rfl (pc' := 52) rfl ?_
        rintro v185 h185 ⟨rfl, K185, Q185_F_act, Q185_F_heap, Q185_F_slot, Q185_F_count, Q185_F_gain, Q185_F_choices⟩
        have X185_b182 := (Exa.keep Q184_E K185)
        have V185_ka := (Q184_VA.keep K185 (ninS (Ne.symm ne_b182_ka) (nin0)))
        have V185_ha := (Q184_VH.keep K185 (ninS (Ne.symm ne_b182_ha) (nin0)))
        have V185_sa := (Q184_VS.keep K185 (ninS (Ne.symm ne_b182_sa) (nin0)))
        have P185 := (P184.trans K185 (allS (Or.inr lt_b182) (all0)))
        show Go _ _ _ _ _ _ _ _ _ _ _ h185 4 21 (mkF m 52 #[.val (.int p0), .val (.int p1), .val (.int p2), .val (.int (1 : Int32)), .val (.int (0 : Int32)), .val (.int (2 : Int32)), .val (.int (1 : Int32)), .val (.ref b182), .unset, .unset] []) _
        refine Jvm.OwnWp.aload K at_52 rfl rfl (pc' := 54) rfl ?_
        refine Jvm.OwnWp.iload K at_54 rfl (pc' := 56) rfl ?_
        refine callVirt K (y := (⟨"com/example/sightline/sightline/checker/ByActivity", "bump", "(I)V"⟩ : MethodName)) (b := b182) (argsL := [(.int (0 : Int32))]) (S := []) (wd18 hw) (wd19 hw) (wd21 hw) (wd20 hw) (wd3 hw) (wd22 hw) (by decide) X185_b182 (c_bumpN l Z a0 hw [] b182 ka ha sa 2 1 4609112532926033335 [0, 4611686018427387904] Hl Sl 0 h185 n0 (Nat.le_trans Z0 P185.1) rfl wf.1 wf.2.1 (by decide) (by decide) wf.2.2.2.1 (by decide) (by decide) (Jvm.Free.Fl.val64_no.mpr (by decide +kernel)) (by decide +kernel) (abs1 wf rt (by decide) (by decide)) X185_b182 Q185_F_act Q185_F_heap Q185_F_slot Q185_F_count Q185_F_gain Q185_F_choices V185_ka V185_ha V185_sa (Ne.symm ne_b182_ka) (Ne.symm ne_b182_ha) (Ne.symm ne_b182_sa) ne_ha_ka ne_sa_ka ne_sa_ha ge_b182 ge_ka ge_ha ge_sa) (lenOf pd1 rfl) at_56 rfl (Nat.le_of_ble_eq_true rfl) (Nat.le_of_ble_eq_true rfl) (Nat.le_of_ble_eq_true rfl) (Nat.le_of_ble_eq_true rfl) rfl (pc' := 59) rfl ?_
        rintro v186 h186 ⟨rfl, K186, Q186_E, Q186_F_act, Q186_F_heap, Q186_F_slot, Q186_F_count, Q186_F_gain, Q186_F_choices, Q186_VA, Q186_VH, Q186_VS⟩
        have X186_b182 := (Exa.keep X185_b182 K186)
        have P186 := (P185.trans K186 (allS (Or.inr lt_b182) (allS (Or.inr lt_ka) (allS (Or.inr lt_ha) (allS (Or.inr lt_sa) (all0))))))
        show Go _ _ _ _ _ _ _ _ _ _ _ h186 4 21 (mkF m 59 #[.val (.int p0), .val (.int p1), .val (.int p2), .val (.int (1 : Int32)), .val (.int (0 : Int32)), .val (.int (2 : Int32)), .val (.int (1 : Int32)), .val (.ref b182), .unset, .unset] []) _
        rw [show ([0, 4611686018427387904].set 0 (FP.dadd ([0, 4611686018427387904].getD 0 0) 4609112532926033335)) = [4609112532926033335, 4611686018427387904] from (by decide +kernel)] at Q186_VA Q186_VH Q186_VS
        have hA2 : Nums [4609112532926033335, 4611686018427387904] := nums2 (by unfold Jvm.OwnHeap.Num; decide +kernel) (by unfold Jvm.OwnHeap.Num; decide +kernel)
        have wf2 := (push_spec (by decide) hA2 wf ord1 (by decide) (by decide : 0 < 2) (abs1 wf rt (by decide) (by decide))).1
        have rt2 := push_root (A := [4609112532926033335, 4611686018427387904]) (c := 0) (S := Sl) wf.1 rt
        rw [if_neg (by decide +kernel)] at rt2
        generalize pushB [4609112532926033335, 4611686018427387904] 0 Hl Sl 1 = U186 at *
        have Q186_F_count : Fld Z h186 b182 "com/example/sightline/sightline/checker/ByActivity" "count" "I" (.int (Int32.ofNat 2)) := Q186_F_count
        refine Jvm.OwnWp.iload K at_59 rfl (pc' := 61) rfl ?_
        refine Jvm.OwnWp.iconst K (1 : Int32) at_61 (by decide) (pc' := 62) rfl ?_
        refine icY K at_62 (by decide) (pc' := 71) (by decide) (by decide) ?_
        refine Jvm.OwnWp.iload K at_71 rfl (pc' := 73) rfl ?_
        refine Jvm.OwnWp.iconst K (2 : Int32) at_73 (by decide) (pc' := 74) rfl ?_
        refine icN K at_74 (by decide) (pc' := 77) rfl ?_
        refine Jvm.OwnWp.iload K at_77 rfl (pc' := 79) rfl ?_
        refine Jvm.OwnWp.iconst K (2 : Int32) at_79 (by decide) (pc' := 80) rfl ?_
        refine icN K at_80 (by decide) (pc' := 83) rfl ?_
        refine Jvm.OwnWp.iload K at_83 rfl (pc' := 85) rfl ?_
        refine Jvm.OwnWp.iconst K (3 : Int32) at_85 (by decide) (pc' := 86) rfl ?_
        refine icY K at_86 (by decide) (pc' := 99) (by decide) (by decide) ?_
        refine Jvm.OwnWp.iconst K (0 : Int32) at_99 (by decide) (pc' := 100) rfl ?_
        refine Jvm.OwnWp.istore K at_100 (Ls' := #[.val (.int p0), .val (.int p1), .val (.int p2), .val (.int (1 : Int32)), .val (.int (0 : Int32)), .val (.int (2 : Int32)), .val (.int (1 : Int32)), .val (.ref b182), .val (.int (0 : Int32)), .unset]) rfl (pc' := 102) rfl ?_
        refine Jvm.OwnWp.iload K at_102 rfl (pc' := 104) rfl ?_
        refine ifY K at_104 (by decide) (pc' := 112) (by decide) (by decide) ?_
        refine Jvm.OwnWp.iloadN K at_112 rfl (pc' := 113) rfl ?_
        refine Jvm.OwnWp.istore K at_113 (Ls' := #[.val (.int p0), .val (.int p1), .val (.int p2), .val (.int (1 : Int32)), .val (.int (0 : Int32)), .val (.int (2 : Int32)), .val (.int (1 : Int32)), .val (.ref b182), .val (.int (0 : Int32)), .val (.int (1 : Int32))]) rfl (pc' := 115) rfl ?_
        refine Jvm.OwnWp.aload K at_115 rfl rfl (pc' := 117) rfl ?_
        refine callVirt K (y := (⟨"com/example/sightline/sightline/checker/ByActivity", "pop", "()I"⟩ : MethodName)) (b := b182) (argsL := []) (S := []) (wd60 hw) (wd61 hw) (wd63 hw) (wd62 hw) (wd3 hw) (wd64 hw) (by decide) Q186_E (c_pop l Z a0 hw [] b182 ka ha sa 2 2 4609112532926033335 [4609112532926033335, 4611686018427387904] U186.1 U186.2 h186 n0 (Nat.le_trans Z0 P186.1) rfl wf2.1 wf2.2.1 (by decide) (by decide) wf2.2.2.2.1 (by decide) (by decide) Q186_E Q186_F_act Q186_F_heap Q186_F_slot Q186_F_count Q186_F_gain Q186_F_choices Q186_VA Q186_VH Q186_VS (Ne.symm ne_b182_ka) (Ne.symm ne_b182_ha) (Ne.symm ne_b182_sa) ne_ha_ka ne_sa_ka ne_sa_ha ge_b182 ge_ka ge_ha ge_sa) (lenOf pd6 rfl) at_117 rfl (Nat.le_of_ble_eq_true rfl) (Nat.le_of_ble_eq_true rfl) (Nat.le_of_ble_eq_true rfl) (Nat.le_of_ble_eq_true rfl) rfl (pc' := 120) rfl ?_
        rintro v187 h187 ⟨rfl, K187, Q187_E, Q187_F_act, Q187_F_heap, Q187_F_slot, Q187_F_count, Q187_F_gain, Q187_F_choices, Q187_VA, Q187_VH, Q187_VS⟩
        have X187_b182 := (Exa.keep Q186_E K187)
        have V187_ka := (Q186_VA.keep K187 (ninS (Ne.symm ne_b182_ka) (ninS (Ne.symm ne_ha_ka) (ninS (Ne.symm ne_sa_ka) (nin0)))))
        have P187 := (P186.trans K187 (allS (Or.inr lt_b182) (allS (Or.inr lt_ha) (allS (Or.inr lt_sa) (all0)))))
        show Go _ _ _ _ _ _ _ _ _ _ _ h187 4 21 (mkF m 120 #[.val (.int p0), .val (.int p1), .val (.int p2), .val (.int (1 : Int32)), .val (.int (0 : Int32)), .val (.int (2 : Int32)), .val (.int (1 : Int32)), .val (.ref b182), .val (.int (0 : Int32)), .val (.int (1 : Int32))] [(.int (Int32.ofNat (U186.1.getD 0 0)))]) _
        rw [rt2, show Int32.ofNat 1 = 1 from rfl]
        refine Jvm.OwnWp.iload K at_120 rfl (pc' := 122) rfl ?_
        refine icN K at_122 (by decide) (pc' := 125) rfl ?_
        refine Jvm.OwnWp.iconst K (1 : Int32) at_125 (by decide) (pc' := 126) rfl ?_
        refine goto' K at_126 (pc' := 130) (by decide) (by decide) ?_
        refine retB K (t := .boolean) rfl (by simp) at_130 (Nat.le_of_ble_eq_true rfl) (Nat.le_of_ble_eq_true rfl) ?_
        rfl
      · refine Jvm.OwnWp.iloadN K at_0 rfl (pc' := 1) rfl ?_
        refine Jvm.OwnWp.iconst K (1 : Int32) at_1 (by decide) (pc' := 2) rfl ?_
        refine Jvm.OwnWp.iand K at_2 (pc' := 3) rfl ?_
        rw [qa]
        refine Jvm.OwnWp.istoreN K at_3 (Ls' := #[.val (.int p0), .val (.int p1), .val (.int p2), .val (.int (1 : Int32)), .unset, .unset, .unset, .unset, .unset, .unset]) rfl (pc' := 4) rfl ?_
        refine Jvm.OwnWp.iconst K (1 : Int32) at_4 (by decide) (pc' := 5) rfl ?_
        refine Jvm.OwnWp.iloadN K at_5 rfl (pc' := 6) rfl ?_
        refine Jvm.OwnWp.isub K at_6 (pc' := 7) rfl ?_
        rw [show (1 : Int32) - 1 = 0 by decide]
        refine Jvm.OwnWp.istore K at_7 (Ls' := #[.val (.int p0), .val (.int p1), .val (.int p2), .val (.int (1 : Int32)), .val (.int (0 : Int32)), .unset, .unset, .unset, .unset, .unset]) rfl (pc' := 9) rfl ?_
        refine Jvm.OwnWp.iconst K (1 : Int32) at_9 (by decide) (pc' := 10) rfl ?_
        refine Jvm.OwnWp.iloadN K at_10 rfl (pc' := 11) rfl ?_
        refine Jvm.OwnWp.ldcI K (wd0 hw) at_11 (pc' := 13) rfl ?_
        refine Jvm.OwnWp.iand K at_13 (pc' := 14) rfl ?_
        refine Jvm.OwnWp.iconst K (3 : Int32) at_14 (by decide) (pc' := 15) rfl ?_
        refine Jvm.OwnWp.irem K at_15 (by decide) (pc' := 16) rfl ?_
        rw [qm]
        refine Jvm.OwnWp.iadd K at_16 (pc' := 17) rfl ?_
        rw [show (1 : Int32) + 1 = 2 by decide]
        refine Jvm.OwnWp.istore K at_17 (Ls' := #[.val (.int p0), .val (.int p1), .val (.int p2), .val (.int (1 : Int32)), .val (.int (0 : Int32)), .val (.int (2 : Int32)), .unset, .unset, .unset, .unset]) rfl (pc' := 19) rfl ?_
        refine Jvm.OwnWp.iloadN K at_19 rfl (pc' := 20) rfl ?_
        refine Jvm.OwnWp.ldcI K (wd0 hw) at_20 (pc' := 22) rfl ?_
        refine Jvm.OwnWp.iand K at_22 (pc' := 23) rfl ?_
        refine Jvm.OwnWp.iconst K (5 : Int32) at_23 (by decide) (pc' := 24) rfl ?_
        refine Jvm.OwnWp.irem K at_24 (by decide) (pc' := 25) rfl ?_
        rw [qk]
        refine Jvm.OwnWp.istore K at_25 (Ls' := #[.val (.int p0), .val (.int p1), .val (.int p2), .val (.int (1 : Int32)), .val (.int (0 : Int32)), .val (.int (2 : Int32)), .val (.int (2 : Int32)), .unset, .unset, .unset]) rfl (pc' := 27) rfl ?_
        refine newObj K (wd1 hw) (wd2 hw) (wd3 hw) at_27 (by decide) (by decide) (pc' := 30) rfl ?_
        intro h188 b188 g188 E188 A188 D188
        have lt_b188 : h0.size ≤ b188 := Nat.le_trans P0.1 (Nat.le_of_eq g188.symm)
        have ge_b188 : n0 ≤ b188 := Nat.le_trans Z0 lt_b188
        have P188 := (P0.ext E188)
        have F188_gain_b188 : Fld Z h188 b188 "com/example/sightline/sightline/checker/ByActivity" "gain" "D" (.double (0 : UInt64)) := D188 (Or.inl (wd11 hw)) (ty := .double) (by decide)
        have F188_choices_b188 : Fld Z h188 b188 "com/example/sightline/sightline/checker/ByActivity" "choices" "I" (.int (0 : Int32)) := D188 (Or.inr (wd13 hw)) (ty := .int) (by decide)
        have F188_activity_b188 : Fld Z h188 b188 "com/example/sightline/sightline/checker/ByActivity" "activity" "[D" .null := D188 (Or.inl (wd24 hw)) (ty := (.array .double)) (by decide)
        have F188_heap_b188 : Fld Z h188 b188 "com/example/sightline/sightline/checker/ByActivity" "heap" "[I" .null := D188 (Or.inl (wd28 hw)) (ty := (.array .int)) (by decide)
        have F188_slot_b188 : Fld Z h188 b188 "com/example/sightline/sightline/checker/ByActivity" "slot" "[I" .null := D188 (Or.inl (wd30 hw)) (ty := (.array .int)) (by decide)
        have F188_count_b188 : Fld Z h188 b188 "com/example/sightline/sightline/checker/ByActivity" "count" "I" (.int (0 : Int32)) := D188 (Or.inl (wd42 hw)) (ty := .int) (by decide)
        refine Jvm.OwnWp.dup K at_30 rfl (pc' := 31) rfl ?_
        refine Jvm.OwnWp.iconst K (2 : Int32) at_31 (by decide) (pc' := 32) rfl ?_
        refine callInit K (y := (⟨"com/example/sightline/sightline/checker/ByActivity", "<init>", "(I)V"⟩ : MethodName)) (b := b188) (argsL := [(.int (2 : Int32))]) (S := [(.ref b188)]) rfl (wd4 hw) (wd5 hw) (wd3 hw) (wd6 hw) rfl (by decide) (c_init l Z a0 hw [] b188 2 h188 n0 (Nat.le_trans Z0 P188.1) A188 ge_b188 F188_gain_b188 F188_choices_b188 F188_activity_b188 F188_heap_b188 F188_slot_b188 F188_count_b188) (lenOf pd1 rfl) at_32 rfl (Nat.le_of_ble_eq_true rfl) (Nat.le_of_ble_eq_true rfl) (Nat.le_of_ble_eq_true rfl) (Nat.le_of_ble_eq_true rfl) rfl (pc' := 35) rfl ?_
        rintro v189 h189 ⟨rfl, K189, I189_gain, I189_choices, I189_activity, I189_heap, I189_slot, I189_count⟩
        have X189_b188 := (Exa.keep A188 K189)
        have P189 := (P188.trans K189 (allS (Or.inr lt_b188) (all0)))
        show Go _ _ _ _ _ _ _ _ _ _ _ h189 1 6 (mkF m 35 #[.val (.int p0), .val (.int p1), .val (.int p2), .val (.int (1 : Int32)), .val (.int (0 : Int32)), .val (.int (2 : Int32)), .val (.int (2 : Int32)), .unset, .unset, .unset] [(.ref b188)]) _
        refine Jvm.OwnWp.astore K at_35 rfl (Ls' := #[.val (.int p0), .val (.int p1), .val (.int p2), .val (.int (1 : Int32)), .val (.int (0 : Int32)), .val (.int (2 : Int32)), .val (.int (2 : Int32)), .val (.ref b188), .unset, .unset]) rfl (pc' := 37) rfl ?_
        refine Jvm.OwnWp.aload K at_37 rfl rfl (pc' := 39) rfl ?_
        refine Jvm.OwnWp.iloadN K at_39 rfl (pc' := 40) rfl ?_
        refine Jvm.OwnWp.iload K at_40 rfl (pc' := 42) rfl ?_
        refine callStatic K (y := (⟨"com/example/sightline/sightline/checker/ByActivityDecayPinLaw", "bumps", "(Lcom/example/sightline/sightline/checker/ByActivity;II)V"⟩ : MethodName)) (argsL := [(.ref b188), (.int (1 : Int32)), (.int (2 : Int32))]) (S := []) (wd14 hw) (wd15 hw) (wd16 hw) (wd17 hw) (by decide) (c_b12 l Z a0 hw [] b188 h189 n0 (Nat.le_trans Z0 P189.1) X189_b188 I189_activity I189_heap I189_slot I189_count I189_gain I189_choices ge_b188) (lenOf pd4 rfl) at_42 rfl (Nat.le_of_ble_eq_true rfl) (Nat.le_of_ble_eq_true rfl) (Nat.le_of_ble_eq_true rfl) (Nat.le_of_ble_eq_true rfl) rfl (pc' := 45) rfl ?_
        rintro v190 h190 ⟨rfl, K190, ka, ha, sa, Hl, Sl, zk, zh, zs, ne_ha_ka, ne_sa_ka, ne_sa_ha, wf, rt, Q190_E, Q190_F_act, Q190_F_heap, Q190_F_slot, Q190_F_count, Q190_F_gain, Q190_F_choices, Q190_VA, Q190_VH, Q190_VS⟩
        have ne_b188_ka : b188 ≠ ka := Nat.ne_of_lt (Nat.lt_of_lt_of_le (Exa.lt X189_b188) zk)
        have lt_ka : h0.size ≤ ka := Nat.le_trans P189.1 zk
        have ge_ka : n0 ≤ ka := Nat.le_trans Z0 lt_ka
        have ne_b188_ha : b188 ≠ ha := Nat.ne_of_lt (Nat.lt_of_lt_of_le (Exa.lt X189_b188) zh)
        have lt_ha : h0.size ≤ ha := Nat.le_trans P189.1 zh
        have ge_ha : n0 ≤ ha := Nat.le_trans Z0 lt_ha
        have ne_b188_sa : b188 ≠ sa := Nat.ne_of_lt (Nat.lt_of_lt_of_le (Exa.lt X189_b188) zs)
        have lt_sa : h0.size ≤ sa := Nat.le_trans P189.1 zs
        have ge_sa : n0 ≤ sa := Nat.le_trans Z0 lt_sa
        have X190_b188 := (Exa.keep X189_b188 K190)
        have P190 := (P189.trans K190 (allS (Or.inr lt_b188) (all0)))
        show Go _ _ _ _ _ _ _ _ _ _ _ h190 4 21 (mkF m 45 #[.val (.int p0), .val (.int p1), .val (.int p2), .val (.int (1 : Int32)), .val (.int (0 : Int32)), .val (.int (2 : Int32)), .val (.int (2 : Int32)), .val (.ref b188), .unset, .unset] []) _
        refine Jvm.OwnWp.aload K at_45 rfl rfl (pc' := 47) rfl ?_
        refine Jvm.OwnWp.iload K at_47 rfl (pc' := 49) rfl ?_
        refine callStatic K (y := (⟨"com/example/sightline/sightline/checker/ByActivityDecayPinLaw", "decays", "(Lcom/example/sightline/sightline/checker/ByActivity;I)V"⟩ : MethodName)) (argsL := [(.ref b188), (.int (2 : Int32))]) (S := []) (wd51 hw) (wd52 hw) (wd16 hw) (wd53 hw) (by decide) (c_dec2 l Z a0 hw [] b188 ka ha sa h190 n0 (Nat.le_trans Z0 P190.1) Q190_E Q190_F_act Q190_F_heap Q190_F_slot Q190_F_count Q190_F_gain Q190_F_choices ge_b188) (lenOf pd5 rfl) at_49 rfl (Nat.le_of_ble_eq_true rfl) (Nat.le_of_ble_eq_true rfl) (Nat.le_of_ble_eq_true rfl) (Nat.le_of_ble_eq_true rfl) rfl (pc' := 52) rfl ?_
        rintro v191 h191 ⟨rfl, K191, Q191_F_act, Q191_F_heap, Q191_F_slot, Q191_F_count, Q191_F_gain, Q191_F_choices⟩
        have X191_b188 := (Exa.keep Q190_E K191)
        have V191_ka := (Q190_VA.keep K191 (ninS (Ne.symm ne_b188_ka) (nin0)))
        have V191_ha := (Q190_VH.keep K191 (ninS (Ne.symm ne_b188_ha) (nin0)))
        have V191_sa := (Q190_VS.keep K191 (ninS (Ne.symm ne_b188_sa) (nin0)))
        have P191 := (P190.trans K191 (allS (Or.inr lt_b188) (all0)))
        show Go _ _ _ _ _ _ _ _ _ _ _ h191 4 21 (mkF m 52 #[.val (.int p0), .val (.int p1), .val (.int p2), .val (.int (1 : Int32)), .val (.int (0 : Int32)), .val (.int (2 : Int32)), .val (.int (2 : Int32)), .val (.ref b188), .unset, .unset] []) _
        refine Jvm.OwnWp.aload K at_52 rfl rfl (pc' := 54) rfl ?_
        refine Jvm.OwnWp.iload K at_54 rfl (pc' := 56) rfl ?_
        refine callVirt K (y := (⟨"com/example/sightline/sightline/checker/ByActivity", "bump", "(I)V"⟩ : MethodName)) (b := b188) (argsL := [(.int (0 : Int32))]) (S := []) (wd18 hw) (wd19 hw) (wd21 hw) (wd20 hw) (wd3 hw) (wd22 hw) (by decide) X191_b188 (c_bumpN l Z a0 hw [] b188 ka ha sa 2 1 4611777928623864853 [0, 4611686018427387904] Hl Sl 0 h191 n0 (Nat.le_trans Z0 P191.1) rfl wf.1 wf.2.1 (by decide) (by decide) wf.2.2.2.1 (by decide) (by decide) (Jvm.Free.Fl.val64_no.mpr (by decide +kernel)) (by decide +kernel) (abs1 wf rt (by decide) (by decide)) X191_b188 Q191_F_act Q191_F_heap Q191_F_slot Q191_F_count Q191_F_gain Q191_F_choices V191_ka V191_ha V191_sa (Ne.symm ne_b188_ka) (Ne.symm ne_b188_ha) (Ne.symm ne_b188_sa) ne_ha_ka ne_sa_ka ne_sa_ha ge_b188 ge_ka ge_ha ge_sa) (lenOf pd1 rfl) at_56 rfl (Nat.le_of_ble_eq_true rfl) (Nat.le_of_ble_eq_true rfl) (Nat.le_of_ble_eq_true rfl) (Nat.le_of_ble_eq_true rfl) rfl (pc' := 59) rfl ?_
        rintro v192 h192 ⟨rfl, K192, Q192_E, Q192_F_act, Q192_F_heap, Q192_F_slot, Q192_F_count, Q192_F_gain, Q192_F_choices, Q192_VA, Q192_VH, Q192_VS⟩
        have X192_b188 := (Exa.keep X191_b188 K192)
        have P192 := (P191.trans K192 (allS (Or.inr lt_b188) (allS (Or.inr lt_ka) (allS (Or.inr lt_ha) (allS (Or.inr lt_sa) (all0))))))
        show Go _ _ _ _ _ _ _ _ _ _ _ h192 4 21 (mkF m 59 #[.val (.int p0), .val (.int p1), .val (.int p2), .val (.int (1 : Int32)), .val (.int (0 : Int32)), .val (.int (2 : Int32)), .val (.int (2 : Int32)), .val (.ref b188), .unset, .unset] []) _
        rw [show ([0, 4611686018427387904].set 0 (FP.dadd ([0, 4611686018427387904].getD 0 0) 4611777928623864853)) = [4611777928623864853, 4611686018427387904] from (by decide +kernel)] at Q192_VA Q192_VH Q192_VS
        have hA2 : Nums [4611777928623864853, 4611686018427387904] := nums2 (by unfold Jvm.OwnHeap.Num; decide +kernel) (by unfold Jvm.OwnHeap.Num; decide +kernel)
        have wf2 := (push_spec (by decide) hA2 wf ord1 (by decide) (by decide : 0 < 2) (abs1 wf rt (by decide) (by decide))).1
        have rt2 := push_root (A := [4611777928623864853, 4611686018427387904]) (c := 0) (S := Sl) wf.1 rt
        rw [if_pos (by decide +kernel)] at rt2
        generalize pushB [4611777928623864853, 4611686018427387904] 0 Hl Sl 1 = U192 at *
        have Q192_F_count : Fld Z h192 b188 "com/example/sightline/sightline/checker/ByActivity" "count" "I" (.int (Int32.ofNat 2)) := Q192_F_count
        refine Jvm.OwnWp.iload K at_59 rfl (pc' := 61) rfl ?_
        refine Jvm.OwnWp.iconst K (1 : Int32) at_61 (by decide) (pc' := 62) rfl ?_
        refine icY K at_62 (by decide) (pc' := 71) (by decide) (by decide) ?_
        refine Jvm.OwnWp.iload K at_71 rfl (pc' := 73) rfl ?_
        refine Jvm.OwnWp.iconst K (2 : Int32) at_73 (by decide) (pc' := 74) rfl ?_
        refine icN K at_74 (by decide) (pc' := 77) rfl ?_
        refine Jvm.OwnWp.iload K at_77 rfl (pc' := 79) rfl ?_
        refine Jvm.OwnWp.iconst K (2 : Int32) at_79 (by decide) (pc' := 80) rfl ?_
        refine icY K at_80 (by decide) (pc' := 95) (by decide) (by decide) ?_
        refine Jvm.OwnWp.iconst K (1 : Int32) at_95 (by decide) (pc' := 96) rfl ?_
        refine goto' K at_96 (pc' := 100) (by decide) (by decide) ?_
        refine Jvm.OwnWp.istore K at_100 (Ls' := #[.val (.int p0), .val (.int p1), .val (.int p2), .val (.int (1 : Int32)), .val (.int (0 : Int32)), .val (.int (2 : Int32)), .val (.int (2 : Int32)), .val (.ref b188), .val (.int (1 : Int32)), .unset]) rfl (pc' := 102) rfl ?_
        refine Jvm.OwnWp.iload K at_102 rfl (pc' := 104) rfl ?_
        refine ifN K at_104 (by decide) (pc' := 107) rfl ?_
        refine Jvm.OwnWp.iload K at_107 rfl (pc' := 109) rfl ?_
        refine goto' K at_109 (pc' := 113) (by decide) (by decide) ?_
        refine Jvm.OwnWp.istore K at_113 (Ls' := #[.val (.int p0), .val (.int p1), .val (.int p2), .val (.int (1 : Int32)), .val (.int (0 : Int32)), .val (.int (2 : Int32)), .val (.int (2 : Int32)), .val (.ref b188), .val (.int (1 : Int32)), .val (.int (0 : Int32))]) rfl (pc' := 115) rfl ?_
        refine Jvm.OwnWp.aload K at_115 rfl rfl (pc' := 117) rfl ?_
        refine callVirt K (y := (⟨"com/example/sightline/sightline/checker/ByActivity", "pop", "()I"⟩ : MethodName)) (b := b188) (argsL := []) (S := []) (wd60 hw) (wd61 hw) (wd63 hw) (wd62 hw) (wd3 hw) (wd64 hw) (by decide) Q192_E (c_pop l Z a0 hw [] b188 ka ha sa 2 2 4611777928623864853 [4611777928623864853, 4611686018427387904] U192.1 U192.2 h192 n0 (Nat.le_trans Z0 P192.1) rfl wf2.1 wf2.2.1 (by decide) (by decide) wf2.2.2.2.1 (by decide) (by decide) Q192_E Q192_F_act Q192_F_heap Q192_F_slot Q192_F_count Q192_F_gain Q192_F_choices Q192_VA Q192_VH Q192_VS (Ne.symm ne_b188_ka) (Ne.symm ne_b188_ha) (Ne.symm ne_b188_sa) ne_ha_ka ne_sa_ka ne_sa_ha ge_b188 ge_ka ge_ha ge_sa) (lenOf pd6 rfl) at_117 rfl (Nat.le_of_ble_eq_true rfl) (Nat.le_of_ble_eq_true rfl) (Nat.le_of_ble_eq_true rfl) (Nat.le_of_ble_eq_true rfl) rfl (pc' := 120) rfl ?_
        rintro v193 h193 ⟨rfl, K193, Q193_E, Q193_F_act, Q193_F_heap, Q193_F_slot, Q193_F_count, Q193_F_gain, Q193_F_choices, Q193_VA, Q193_VH, Q193_VS⟩
        have X193_b188 := (Exa.keep Q192_E K193)
        have V193_ka := (Q192_VA.keep K193 (ninS (Ne.symm ne_b188_ka) (ninS (Ne.symm ne_ha_ka) (ninS (Ne.symm ne_sa_ka) (nin0)))))
        have P193 := (P192.trans K193 (allS (Or.inr lt_b188) (allS (Or.inr lt_ha) (allS (Or.inr lt_sa) (all0)))))
        show Go _ _ _ _ _ _ _ _ _ _ _ h193 4 21 (mkF m 120 #[.val (.int p0), .val (.int p1), .val (.int p2), .val (.int (1 : Int32)), .val (.int (0 : Int32)), .val (.int (2 : Int32)), .val (.int (2 : Int32)), .val (.ref b188), .val (.int (1 : Int32)), .val (.int (0 : Int32))] [(.int (Int32.ofNat (U192.1.getD 0 0)))]) _
        rw [rt2, show Int32.ofNat 0 = 0 from rfl]
        refine Jvm.OwnWp.iload K at_120 rfl (pc' := 122) rfl ?_
        refine icN K at_122 (by decide) (pc' := 125) rfl ?_
        refine Jvm.OwnWp.iconst K (1 : Int32) at_125 (by decide) (pc' := 126) rfl ?_
        refine goto' K at_126 (pc' := 130) (by decide) (by decide) ?_
        refine retB K (t := .boolean) rfl (by simp) at_130 (Nat.le_of_ble_eq_true rfl) (Nat.le_of_ble_eq_true rfl) ?_
        rfl
      · refine Jvm.OwnWp.iloadN K at_0 rfl (pc' := 1) rfl ?_
        refine Jvm.OwnWp.iconst K (1 : Int32) at_1 (by decide) (pc' := 2) rfl ?_
        refine Jvm.OwnWp.iand K at_2 (pc' := 3) rfl ?_
        rw [qa]
        refine Jvm.OwnWp.istoreN K at_3 (Ls' := #[.val (.int p0), .val (.int p1), .val (.int p2), .val (.int (1 : Int32)), .unset, .unset, .unset, .unset, .unset, .unset]) rfl (pc' := 4) rfl ?_
        refine Jvm.OwnWp.iconst K (1 : Int32) at_4 (by decide) (pc' := 5) rfl ?_
        refine Jvm.OwnWp.iloadN K at_5 rfl (pc' := 6) rfl ?_
        refine Jvm.OwnWp.isub K at_6 (pc' := 7) rfl ?_
        rw [show (1 : Int32) - 1 = 0 by decide]
        refine Jvm.OwnWp.istore K at_7 (Ls' := #[.val (.int p0), .val (.int p1), .val (.int p2), .val (.int (1 : Int32)), .val (.int (0 : Int32)), .unset, .unset, .unset, .unset, .unset]) rfl (pc' := 9) rfl ?_
        refine Jvm.OwnWp.iconst K (1 : Int32) at_9 (by decide) (pc' := 10) rfl ?_
        refine Jvm.OwnWp.iloadN K at_10 rfl (pc' := 11) rfl ?_
        refine Jvm.OwnWp.ldcI K (wd0 hw) at_11 (pc' := 13) rfl ?_
        refine Jvm.OwnWp.iand K at_13 (pc' := 14) rfl ?_
        refine Jvm.OwnWp.iconst K (3 : Int32) at_14 (by decide) (pc' := 15) rfl ?_
        refine Jvm.OwnWp.irem K at_15 (by decide) (pc' := 16) rfl ?_
        rw [qm]
        refine Jvm.OwnWp.iadd K at_16 (pc' := 17) rfl ?_
        rw [show (1 : Int32) + 1 = 2 by decide]
        refine Jvm.OwnWp.istore K at_17 (Ls' := #[.val (.int p0), .val (.int p1), .val (.int p2), .val (.int (1 : Int32)), .val (.int (0 : Int32)), .val (.int (2 : Int32)), .unset, .unset, .unset, .unset]) rfl (pc' := 19) rfl ?_
        refine Jvm.OwnWp.iloadN K at_19 rfl (pc' := 20) rfl ?_
        refine Jvm.OwnWp.ldcI K (wd0 hw) at_20 (pc' := 22) rfl ?_
        refine Jvm.OwnWp.iand K at_22 (pc' := 23) rfl ?_
        refine Jvm.OwnWp.iconst K (5 : Int32) at_23 (by decide) (pc' := 24) rfl ?_
        refine Jvm.OwnWp.irem K at_24 (by decide) (pc' := 25) rfl ?_
        rw [qk]
        refine Jvm.OwnWp.istore K at_25 (Ls' := #[.val (.int p0), .val (.int p1), .val (.int p2), .val (.int (1 : Int32)), .val (.int (0 : Int32)), .val (.int (2 : Int32)), .val (.int (3 : Int32)), .unset, .unset, .unset]) rfl (pc' := 27) rfl ?_
        refine newObj K (wd1 hw) (wd2 hw) (wd3 hw) at_27 (by decide) (by decide) (pc' := 30) rfl ?_
        intro h194 b194 g194 E194 A194 D194
        have lt_b194 : h0.size ≤ b194 := Nat.le_trans P0.1 (Nat.le_of_eq g194.symm)
        have ge_b194 : n0 ≤ b194 := Nat.le_trans Z0 lt_b194
        have P194 := (P0.ext E194)
        have F194_gain_b194 : Fld Z h194 b194 "com/example/sightline/sightline/checker/ByActivity" "gain" "D" (.double (0 : UInt64)) := D194 (Or.inl (wd11 hw)) (ty := .double) (by decide)
        have F194_choices_b194 : Fld Z h194 b194 "com/example/sightline/sightline/checker/ByActivity" "choices" "I" (.int (0 : Int32)) := D194 (Or.inr (wd13 hw)) (ty := .int) (by decide)
        have F194_activity_b194 : Fld Z h194 b194 "com/example/sightline/sightline/checker/ByActivity" "activity" "[D" .null := D194 (Or.inl (wd24 hw)) (ty := (.array .double)) (by decide)
        have F194_heap_b194 : Fld Z h194 b194 "com/example/sightline/sightline/checker/ByActivity" "heap" "[I" .null := D194 (Or.inl (wd28 hw)) (ty := (.array .int)) (by decide)
        have F194_slot_b194 : Fld Z h194 b194 "com/example/sightline/sightline/checker/ByActivity" "slot" "[I" .null := D194 (Or.inl (wd30 hw)) (ty := (.array .int)) (by decide)
        have F194_count_b194 : Fld Z h194 b194 "com/example/sightline/sightline/checker/ByActivity" "count" "I" (.int (0 : Int32)) := D194 (Or.inl (wd42 hw)) (ty := .int) (by decide)
        refine Jvm.OwnWp.dup K at_30 rfl (pc' := 31) rfl ?_
        refine Jvm.OwnWp.iconst K (2 : Int32) at_31 (by decide) (pc' := 32) rfl ?_
        refine callInit K (y := (⟨"com/example/sightline/sightline/checker/ByActivity", "<init>", "(I)V"⟩ : MethodName)) (b := b194) (argsL := [(.int (2 : Int32))]) (S := [(.ref b194)]) rfl (wd4 hw) (wd5 hw) (wd3 hw) (wd6 hw) rfl (by decide) (c_init l Z a0 hw [] b194 2 h194 n0 (Nat.le_trans Z0 P194.1) A194 ge_b194 F194_gain_b194 F194_choices_b194 F194_activity_b194 F194_heap_b194 F194_slot_b194 F194_count_b194) (lenOf pd1 rfl) at_32 rfl (Nat.le_of_ble_eq_true rfl) (Nat.le_of_ble_eq_true rfl) (Nat.le_of_ble_eq_true rfl) (Nat.le_of_ble_eq_true rfl) rfl (pc' := 35) rfl ?_
        rintro v195 h195 ⟨rfl, K195, I195_gain, I195_choices, I195_activity, I195_heap, I195_slot, I195_count⟩
        have X195_b194 := (Exa.keep A194 K195)
        have P195 := (P194.trans K195 (allS (Or.inr lt_b194) (all0)))
        show Go _ _ _ _ _ _ _ _ _ _ _ h195 1 6 (mkF m 35 #[.val (.int p0), .val (.int p1), .val (.int p2), .val (.int (1 : Int32)), .val (.int (0 : Int32)), .val (.int (2 : Int32)), .val (.int (3 : Int32)), .unset, .unset, .unset] [(.ref b194)]) _
        refine Jvm.OwnWp.astore K at_35 rfl (Ls' := #[.val (.int p0), .val (.int p1), .val (.int p2), .val (.int (1 : Int32)), .val (.int (0 : Int32)), .val (.int (2 : Int32)), .val (.int (3 : Int32)), .val (.ref b194), .unset, .unset]) rfl (pc' := 37) rfl ?_
        refine Jvm.OwnWp.aload K at_37 rfl rfl (pc' := 39) rfl ?_
        refine Jvm.OwnWp.iloadN K at_39 rfl (pc' := 40) rfl ?_
        refine Jvm.OwnWp.iload K at_40 rfl (pc' := 42) rfl ?_
        refine callStatic K (y := (⟨"com/example/sightline/sightline/checker/ByActivityDecayPinLaw", "bumps", "(Lcom/example/sightline/sightline/checker/ByActivity;II)V"⟩ : MethodName)) (argsL := [(.ref b194), (.int (1 : Int32)), (.int (2 : Int32))]) (S := []) (wd14 hw) (wd15 hw) (wd16 hw) (wd17 hw) (by decide) (c_b12 l Z a0 hw [] b194 h195 n0 (Nat.le_trans Z0 P195.1) X195_b194 I195_activity I195_heap I195_slot I195_count I195_gain I195_choices ge_b194) (lenOf pd4 rfl) at_42 rfl (Nat.le_of_ble_eq_true rfl) (Nat.le_of_ble_eq_true rfl) (Nat.le_of_ble_eq_true rfl) (Nat.le_of_ble_eq_true rfl) rfl (pc' := 45) rfl ?_
        rintro v196 h196 ⟨rfl, K196, ka, ha, sa, Hl, Sl, zk, zh, zs, ne_ha_ka, ne_sa_ka, ne_sa_ha, wf, rt, Q196_E, Q196_F_act, Q196_F_heap, Q196_F_slot, Q196_F_count, Q196_F_gain, Q196_F_choices, Q196_VA, Q196_VH, Q196_VS⟩
        have ne_b194_ka : b194 ≠ ka := Nat.ne_of_lt (Nat.lt_of_lt_of_le (Exa.lt X195_b194) zk)
        have lt_ka : h0.size ≤ ka := Nat.le_trans P195.1 zk
        have ge_ka : n0 ≤ ka := Nat.le_trans Z0 lt_ka
        have ne_b194_ha : b194 ≠ ha := Nat.ne_of_lt (Nat.lt_of_lt_of_le (Exa.lt X195_b194) zh)
        have lt_ha : h0.size ≤ ha := Nat.le_trans P195.1 zh
        have ge_ha : n0 ≤ ha := Nat.le_trans Z0 lt_ha
        have ne_b194_sa : b194 ≠ sa := Nat.ne_of_lt (Nat.lt_of_lt_of_le (Exa.lt X195_b194) zs)
        have lt_sa : h0.size ≤ sa := Nat.le_trans P195.1 zs
        have ge_sa : n0 ≤ sa := Nat.le_trans Z0 lt_sa
        have X196_b194 := (Exa.keep X195_b194 K196)
        have P196 := (P195.trans K196 (allS (Or.inr lt_b194) (all0)))
        show Go _ _ _ _ _ _ _ _ _ _ _ h196 4 21 (mkF m 45 #[.val (.int p0), .val (.int p1), .val (.int p2), .val (.int (1 : Int32)), .val (.int (0 : Int32)), .val (.int (2 : Int32)), .val (.int (3 : Int32)), .val (.ref b194), .unset, .unset] []) _
        refine Jvm.OwnWp.aload K at_45 rfl rfl (pc' := 47) rfl ?_
        refine Jvm.OwnWp.iload K at_47 rfl (pc' := 49) rfl ?_
        refine callStatic K (y := (⟨"com/example/sightline/sightline/checker/ByActivityDecayPinLaw", "decays", "(Lcom/example/sightline/sightline/checker/ByActivity;I)V"⟩ : MethodName)) (argsL := [(.ref b194), (.int (3 : Int32))]) (S := []) (wd51 hw) (wd52 hw) (wd16 hw) (wd53 hw) (by decide) (c_dec3 l Z a0 hw [] b194 ka ha sa h196 n0 (Nat.le_trans Z0 P196.1) Q196_E Q196_F_act Q196_F_heap Q196_F_slot Q196_F_count Q196_F_gain Q196_F_choices ge_b194) (lenOf pd5 rfl) at_49 rfl (Nat.le_of_ble_eq_true rfl) (Nat.le_of_ble_eq_true rfl) (Nat.le_of_ble_eq_true rfl) (Nat.le_of_ble_eq_true rfl) rfl (pc' := 52) rfl ?_
        rintro v197 h197 ⟨rfl, K197, Q197_F_act, Q197_F_heap, Q197_F_slot, Q197_F_count, Q197_F_gain, Q197_F_choices⟩
        have X197_b194 := (Exa.keep Q196_E K197)
        have V197_ka := (Q196_VA.keep K197 (ninS (Ne.symm ne_b194_ka) (nin0)))
        have V197_ha := (Q196_VH.keep K197 (ninS (Ne.symm ne_b194_ha) (nin0)))
        have V197_sa := (Q196_VS.keep K197 (ninS (Ne.symm ne_b194_sa) (nin0)))
        have P197 := (P196.trans K197 (allS (Or.inr lt_b194) (all0)))
        show Go _ _ _ _ _ _ _ _ _ _ _ h197 4 21 (mkF m 52 #[.val (.int p0), .val (.int p1), .val (.int p2), .val (.int (1 : Int32)), .val (.int (0 : Int32)), .val (.int (2 : Int32)), .val (.int (3 : Int32)), .val (.ref b194), .unset, .unset] []) _
        refine Jvm.OwnWp.aload K at_52 rfl rfl (pc' := 54) rfl ?_
        refine Jvm.OwnWp.iload K at_54 rfl (pc' := 56) rfl ?_
        refine callVirt K (y := (⟨"com/example/sightline/sightline/checker/ByActivity", "bump", "(I)V"⟩ : MethodName)) (b := b194) (argsL := [(.int (0 : Int32))]) (S := []) (wd18 hw) (wd19 hw) (wd21 hw) (wd20 hw) (wd3 hw) (wd22 hw) (by decide) X197_b194 (c_bumpN l Z a0 hw [] b194 ka ha sa 2 1 4613747432834085187 [0, 4611686018427387904] Hl Sl 0 h197 n0 (Nat.le_trans Z0 P197.1) rfl wf.1 wf.2.1 (by decide) (by decide) wf.2.2.2.1 (by decide) (by decide) (Jvm.Free.Fl.val64_no.mpr (by decide +kernel)) (by decide +kernel) (abs1 wf rt (by decide) (by decide)) X197_b194 Q197_F_act Q197_F_heap Q197_F_slot Q197_F_count Q197_F_gain Q197_F_choices V197_ka V197_ha V197_sa (Ne.symm ne_b194_ka) (Ne.symm ne_b194_ha) (Ne.symm ne_b194_sa) ne_ha_ka ne_sa_ka ne_sa_ha ge_b194 ge_ka ge_ha ge_sa) (lenOf pd1 rfl) at_56 rfl (Nat.le_of_ble_eq_true rfl) (Nat.le_of_ble_eq_true rfl) (Nat.le_of_ble_eq_true rfl) (Nat.le_of_ble_eq_true rfl) rfl (pc' := 59) rfl ?_
        rintro v198 h198 ⟨rfl, K198, Q198_E, Q198_F_act, Q198_F_heap, Q198_F_slot, Q198_F_count, Q198_F_gain, Q198_F_choices, Q198_VA, Q198_VH, Q198_VS⟩
        have X198_b194 := (Exa.keep X197_b194 K198)
        have P198 := (P197.trans K198 (allS (Or.inr lt_b194) (allS (Or.inr lt_ka) (allS (Or.inr lt_ha) (allS (Or.inr lt_sa) (all0))))))
        show Go _ _ _ _ _ _ _ _ _ _ _ h198 4 21 (mkF m 59 #[.val (.int p0), .val (.int p1), .val (.int p2), .val (.int (1 : Int32)), .val (.int (0 : Int32)), .val (.int (2 : Int32)), .val (.int (3 : Int32)), .val (.ref b194), .unset, .unset] []) _
        rw [show ([0, 4611686018427387904].set 0 (FP.dadd ([0, 4611686018427387904].getD 0 0) 4613747432834085187)) = [4613747432834085187, 4611686018427387904] from (by decide +kernel)] at Q198_VA Q198_VH Q198_VS
        have hA2 : Nums [4613747432834085187, 4611686018427387904] := nums2 (by unfold Jvm.OwnHeap.Num; decide +kernel) (by unfold Jvm.OwnHeap.Num; decide +kernel)
        have wf2 := (push_spec (by decide) hA2 wf ord1 (by decide) (by decide : 0 < 2) (abs1 wf rt (by decide) (by decide))).1
        have rt2 := push_root (A := [4613747432834085187, 4611686018427387904]) (c := 0) (S := Sl) wf.1 rt
        rw [if_pos (by decide +kernel)] at rt2
        generalize pushB [4613747432834085187, 4611686018427387904] 0 Hl Sl 1 = U198 at *
        have Q198_F_count : Fld Z h198 b194 "com/example/sightline/sightline/checker/ByActivity" "count" "I" (.int (Int32.ofNat 2)) := Q198_F_count
        refine Jvm.OwnWp.iload K at_59 rfl (pc' := 61) rfl ?_
        refine Jvm.OwnWp.iconst K (1 : Int32) at_61 (by decide) (pc' := 62) rfl ?_
        refine icY K at_62 (by decide) (pc' := 71) (by decide) (by decide) ?_
        refine Jvm.OwnWp.iload K at_71 rfl (pc' := 73) rfl ?_
        refine Jvm.OwnWp.iconst K (2 : Int32) at_73 (by decide) (pc' := 74) rfl ?_
        refine icN K at_74 (by decide) (pc' := 77) rfl ?_
        refine Jvm.OwnWp.iload K at_77 rfl (pc' := 79) rfl ?_
        refine Jvm.OwnWp.iconst K (2 : Int32) at_79 (by decide) (pc' := 80) rfl ?_
        refine icY K at_80 (by decide) (pc' := 95) (by decide) (by decide) ?_
        refine Jvm.OwnWp.iconst K (1 : Int32) at_95 (by decide) (pc' := 96) rfl ?_
        refine goto' K at_96 (pc' := 100) (by decide) (by decide) ?_
        refine Jvm.OwnWp.istore K at_100 (Ls' := #[.val (.int p0), .val (.int p1), .val (.int p2), .val (.int (1 : Int32)), .val (.int (0 : Int32)), .val (.int (2 : Int32)), .val (.int (3 : Int32)), .val (.ref b194), .val (.int (1 : Int32)), .unset]) rfl (pc' := 102) rfl ?_
        refine Jvm.OwnWp.iload K at_102 rfl (pc' := 104) rfl ?_
        refine ifN K at_104 (by decide) (pc' := 107) rfl ?_
        refine Jvm.OwnWp.iload K at_107 rfl (pc' := 109) rfl ?_
        refine goto' K at_109 (pc' := 113) (by decide) (by decide) ?_
        refine Jvm.OwnWp.istore K at_113 (Ls' := #[.val (.int p0), .val (.int p1), .val (.int p2), .val (.int (1 : Int32)), .val (.int (0 : Int32)), .val (.int (2 : Int32)), .val (.int (3 : Int32)), .val (.ref b194), .val (.int (1 : Int32)), .val (.int (0 : Int32))]) rfl (pc' := 115) rfl ?_
        refine Jvm.OwnWp.aload K at_115 rfl rfl (pc' := 117) rfl ?_
        refine callVirt K (y := (⟨"com/example/sightline/sightline/checker/ByActivity", "pop", "()I"⟩ : MethodName)) (b := b194) (argsL := []) (S := []) (wd60 hw) (wd61 hw) (wd63 hw) (wd62 hw) (wd3 hw) (wd64 hw) (by decide) Q198_E (c_pop l Z a0 hw [] b194 ka ha sa 2 2 4613747432834085187 [4613747432834085187, 4611686018427387904] U198.1 U198.2 h198 n0 (Nat.le_trans Z0 P198.1) rfl wf2.1 wf2.2.1 (by decide) (by decide) wf2.2.2.2.1 (by decide) (by decide) Q198_E Q198_F_act Q198_F_heap Q198_F_slot Q198_F_count Q198_F_gain Q198_F_choices Q198_VA Q198_VH Q198_VS (Ne.symm ne_b194_ka) (Ne.symm ne_b194_ha) (Ne.symm ne_b194_sa) ne_ha_ka ne_sa_ka ne_sa_ha ge_b194 ge_ka ge_ha ge_sa) (lenOf pd6 rfl) at_117 rfl (Nat.le_of_ble_eq_true rfl) (Nat.le_of_ble_eq_true rfl) (Nat.le_of_ble_eq_true rfl) (Nat.le_of_ble_eq_true rfl) rfl (pc' := 120) rfl ?_
        rintro v199 h199 ⟨rfl, K199, Q199_E, Q199_F_act, Q199_F_heap, Q199_F_slot, Q199_F_count, Q199_F_gain, Q199_F_choices, Q199_VA, Q199_VH, Q199_VS⟩
        have X199_b194 := (Exa.keep Q198_E K199)
        have V199_ka := (Q198_VA.keep K199 (ninS (Ne.symm ne_b194_ka) (ninS (Ne.symm ne_ha_ka) (ninS (Ne.symm ne_sa_ka) (nin0)))))
        have P199 := (P198.trans K199 (allS (Or.inr lt_b194) (allS (Or.inr lt_ha) (allS (Or.inr lt_sa) (all0)))))
        show Go _ _ _ _ _ _ _ _ _ _ _ h199 4 21 (mkF m 120 #[.val (.int p0), .val (.int p1), .val (.int p2), .val (.int (1 : Int32)), .val (.int (0 : Int32)), .val (.int (2 : Int32)), .val (.int (3 : Int32)), .val (.ref b194), .val (.int (1 : Int32)), .val (.int (0 : Int32))] [(.int (Int32.ofNat (U198.1.getD 0 0)))]) _
        rw [rt2, show Int32.ofNat 0 = 0 from rfl]
        refine Jvm.OwnWp.iload K at_120 rfl (pc' := 122) rfl ?_
        refine icN K at_122 (by decide) (pc' := 125) rfl ?_
        refine Jvm.OwnWp.iconst K (1 : Int32) at_125 (by decide) (pc' := 126) rfl ?_
        refine goto' K at_126 (pc' := 130) (by decide) (by decide) ?_
        refine retB K (t := .boolean) rfl (by simp) at_130 (Nat.le_of_ble_eq_true rfl) (Nat.le_of_ble_eq_true rfl) ?_
        rfl
      · refine Jvm.OwnWp.iloadN K at_0 rfl (pc' := 1) rfl ?_
        refine Jvm.OwnWp.iconst K (1 : Int32) at_1 (by decide) (pc' := 2) rfl ?_
        refine Jvm.OwnWp.iand K at_2 (pc' := 3) rfl ?_
        rw [qa]
        refine Jvm.OwnWp.istoreN K at_3 (Ls' := #[.val (.int p0), .val (.int p1), .val (.int p2), .val (.int (1 : Int32)), .unset, .unset, .unset, .unset, .unset, .unset]) rfl (pc' := 4) rfl ?_
        refine Jvm.OwnWp.iconst K (1 : Int32) at_4 (by decide) (pc' := 5) rfl ?_
        refine Jvm.OwnWp.iloadN K at_5 rfl (pc' := 6) rfl ?_
        refine Jvm.OwnWp.isub K at_6 (pc' := 7) rfl ?_
        rw [show (1 : Int32) - 1 = 0 by decide]
        refine Jvm.OwnWp.istore K at_7 (Ls' := #[.val (.int p0), .val (.int p1), .val (.int p2), .val (.int (1 : Int32)), .val (.int (0 : Int32)), .unset, .unset, .unset, .unset, .unset]) rfl (pc' := 9) rfl ?_
        refine Jvm.OwnWp.iconst K (1 : Int32) at_9 (by decide) (pc' := 10) rfl ?_
        refine Jvm.OwnWp.iloadN K at_10 rfl (pc' := 11) rfl ?_
        refine Jvm.OwnWp.ldcI K (wd0 hw) at_11 (pc' := 13) rfl ?_
        refine Jvm.OwnWp.iand K at_13 (pc' := 14) rfl ?_
        refine Jvm.OwnWp.iconst K (3 : Int32) at_14 (by decide) (pc' := 15) rfl ?_
        refine Jvm.OwnWp.irem K at_15 (by decide) (pc' := 16) rfl ?_
        rw [qm]
        refine Jvm.OwnWp.iadd K at_16 (pc' := 17) rfl ?_
        rw [show (1 : Int32) + 1 = 2 by decide]
        refine Jvm.OwnWp.istore K at_17 (Ls' := #[.val (.int p0), .val (.int p1), .val (.int p2), .val (.int (1 : Int32)), .val (.int (0 : Int32)), .val (.int (2 : Int32)), .unset, .unset, .unset, .unset]) rfl (pc' := 19) rfl ?_
        refine Jvm.OwnWp.iloadN K at_19 rfl (pc' := 20) rfl ?_
        refine Jvm.OwnWp.ldcI K (wd0 hw) at_20 (pc' := 22) rfl ?_
        refine Jvm.OwnWp.iand K at_22 (pc' := 23) rfl ?_
        refine Jvm.OwnWp.iconst K (5 : Int32) at_23 (by decide) (pc' := 24) rfl ?_
        refine Jvm.OwnWp.irem K at_24 (by decide) (pc' := 25) rfl ?_
        rw [qk]
        refine Jvm.OwnWp.istore K at_25 (Ls' := #[.val (.int p0), .val (.int p1), .val (.int p2), .val (.int (1 : Int32)), .val (.int (0 : Int32)), .val (.int (2 : Int32)), .val (.int (4 : Int32)), .unset, .unset, .unset]) rfl (pc' := 27) rfl ?_
        refine newObj K (wd1 hw) (wd2 hw) (wd3 hw) at_27 (by decide) (by decide) (pc' := 30) rfl ?_
        intro h200 b200 g200 E200 A200 D200
        have lt_b200 : h0.size ≤ b200 := Nat.le_trans P0.1 (Nat.le_of_eq g200.symm)
        have ge_b200 : n0 ≤ b200 := Nat.le_trans Z0 lt_b200
        have P200 := (P0.ext E200)
        have F200_gain_b200 : Fld Z h200 b200 "com/example/sightline/sightline/checker/ByActivity" "gain" "D" (.double (0 : UInt64)) := D200 (Or.inl (wd11 hw)) (ty := .double) (by decide)
        have F200_choices_b200 : Fld Z h200 b200 "com/example/sightline/sightline/checker/ByActivity" "choices" "I" (.int (0 : Int32)) := D200 (Or.inr (wd13 hw)) (ty := .int) (by decide)
        have F200_activity_b200 : Fld Z h200 b200 "com/example/sightline/sightline/checker/ByActivity" "activity" "[D" .null := D200 (Or.inl (wd24 hw)) (ty := (.array .double)) (by decide)
        have F200_heap_b200 : Fld Z h200 b200 "com/example/sightline/sightline/checker/ByActivity" "heap" "[I" .null := D200 (Or.inl (wd28 hw)) (ty := (.array .int)) (by decide)
        have F200_slot_b200 : Fld Z h200 b200 "com/example/sightline/sightline/checker/ByActivity" "slot" "[I" .null := D200 (Or.inl (wd30 hw)) (ty := (.array .int)) (by decide)
        have F200_count_b200 : Fld Z h200 b200 "com/example/sightline/sightline/checker/ByActivity" "count" "I" (.int (0 : Int32)) := D200 (Or.inl (wd42 hw)) (ty := .int) (by decide)
        refine Jvm.OwnWp.dup K at_30 rfl (pc' := 31) rfl ?_
        refine Jvm.OwnWp.iconst K (2 : Int32) at_31 (by decide) (pc' := 32) rfl ?_
        refine callInit K (y := (⟨"com/example/sightline/sightline/checker/ByActivity", "<init>", "(I)V"⟩ : MethodName)) (b := b200) (argsL := [(.int (2 : Int32))]) (S := [(.ref b200)]) rfl (wd4 hw) (wd5 hw) (wd3 hw) (wd6 hw) rfl (by decide) (c_init l Z a0 hw [] b200 2 h200 n0 (Nat.le_trans Z0 P200.1) A200 ge_b200 F200_gain_b200 F200_choices_b200 F200_activity_b200 F200_heap_b200 F200_slot_b200 F200_count_b200) (lenOf pd1 rfl) at_32 rfl (Nat.le_of_ble_eq_true rfl) (Nat.le_of_ble_eq_true rfl) (Nat.le_of_ble_eq_true rfl) (Nat.le_of_ble_eq_true rfl) rfl (pc' := 35) rfl ?_
        rintro v201 h201 ⟨rfl, K201, I201_gain, I201_choices, I201_activity, I201_heap, I201_slot, I201_count⟩
        have X201_b200 := (Exa.keep A200 K201)
        have P201 := (P200.trans K201 (allS (Or.inr lt_b200) (all0)))
        show Go _ _ _ _ _ _ _ _ _ _ _ h201 1 6 (mkF m 35 #[.val (.int p0), .val (.int p1), .val (.int p2), .val (.int (1 : Int32)), .val (.int (0 : Int32)), .val (.int (2 : Int32)), .val (.int (4 : Int32)), .unset, .unset, .unset] [(.ref b200)]) _
        refine Jvm.OwnWp.astore K at_35 rfl (Ls' := #[.val (.int p0), .val (.int p1), .val (.int p2), .val (.int (1 : Int32)), .val (.int (0 : Int32)), .val (.int (2 : Int32)), .val (.int (4 : Int32)), .val (.ref b200), .unset, .unset]) rfl (pc' := 37) rfl ?_
        refine Jvm.OwnWp.aload K at_37 rfl rfl (pc' := 39) rfl ?_
        refine Jvm.OwnWp.iloadN K at_39 rfl (pc' := 40) rfl ?_
        refine Jvm.OwnWp.iload K at_40 rfl (pc' := 42) rfl ?_
        refine callStatic K (y := (⟨"com/example/sightline/sightline/checker/ByActivityDecayPinLaw", "bumps", "(Lcom/example/sightline/sightline/checker/ByActivity;II)V"⟩ : MethodName)) (argsL := [(.ref b200), (.int (1 : Int32)), (.int (2 : Int32))]) (S := []) (wd14 hw) (wd15 hw) (wd16 hw) (wd17 hw) (by decide) (c_b12 l Z a0 hw [] b200 h201 n0 (Nat.le_trans Z0 P201.1) X201_b200 I201_activity I201_heap I201_slot I201_count I201_gain I201_choices ge_b200) (lenOf pd4 rfl) at_42 rfl (Nat.le_of_ble_eq_true rfl) (Nat.le_of_ble_eq_true rfl) (Nat.le_of_ble_eq_true rfl) (Nat.le_of_ble_eq_true rfl) rfl (pc' := 45) rfl ?_
        rintro v202 h202 ⟨rfl, K202, ka, ha, sa, Hl, Sl, zk, zh, zs, ne_ha_ka, ne_sa_ka, ne_sa_ha, wf, rt, Q202_E, Q202_F_act, Q202_F_heap, Q202_F_slot, Q202_F_count, Q202_F_gain, Q202_F_choices, Q202_VA, Q202_VH, Q202_VS⟩
        have ne_b200_ka : b200 ≠ ka := Nat.ne_of_lt (Nat.lt_of_lt_of_le (Exa.lt X201_b200) zk)
        have lt_ka : h0.size ≤ ka := Nat.le_trans P201.1 zk
        have ge_ka : n0 ≤ ka := Nat.le_trans Z0 lt_ka
        have ne_b200_ha : b200 ≠ ha := Nat.ne_of_lt (Nat.lt_of_lt_of_le (Exa.lt X201_b200) zh)
        have lt_ha : h0.size ≤ ha := Nat.le_trans P201.1 zh
        have ge_ha : n0 ≤ ha := Nat.le_trans Z0 lt_ha
        have ne_b200_sa : b200 ≠ sa := Nat.ne_of_lt (Nat.lt_of_lt_of_le (Exa.lt X201_b200) zs)
        have lt_sa : h0.size ≤ sa := Nat.le_trans P201.1 zs
        have ge_sa : n0 ≤ sa := Nat.le_trans Z0 lt_sa
        have X202_b200 := (Exa.keep X201_b200 K202)
        have P202 := (P201.trans K202 (allS (Or.inr lt_b200) (all0)))
        show Go _ _ _ _ _ _ _ _ _ _ _ h202 4 21 (mkF m 45 #[.val (.int p0), .val (.int p1), .val (.int p2), .val (.int (1 : Int32)), .val (.int (0 : Int32)), .val (.int (2 : Int32)), .val (.int (4 : Int32)), .val (.ref b200), .unset, .unset] []) _
        refine Jvm.OwnWp.aload K at_45 rfl rfl (pc' := 47) rfl ?_
        refine Jvm.OwnWp.iload K at_47 rfl (pc' := 49) rfl ?_
        refine callStatic K (y := (⟨"com/example/sightline/sightline/checker/ByActivityDecayPinLaw", "decays", "(Lcom/example/sightline/sightline/checker/ByActivity;I)V"⟩ : MethodName)) (argsL := [(.ref b200), (.int (4 : Int32))]) (S := []) (wd51 hw) (wd52 hw) (wd16 hw) (wd53 hw) (by decide) (c_dec4 l Z a0 hw [] b200 ka ha sa h202 n0 (Nat.le_trans Z0 P202.1) Q202_E Q202_F_act Q202_F_heap Q202_F_slot Q202_F_count Q202_F_gain Q202_F_choices ge_b200) (lenOf pd5 rfl) at_49 rfl (Nat.le_of_ble_eq_true rfl) (Nat.le_of_ble_eq_true rfl) (Nat.le_of_ble_eq_true rfl) (Nat.le_of_ble_eq_true rfl) rfl (pc' := 52) rfl ?_
        rintro v203 h203 ⟨rfl, K203, Q203_F_act, Q203_F_heap, Q203_F_slot, Q203_F_count, Q203_F_gain, Q203_F_choices⟩
        have X203_b200 := (Exa.keep Q202_E K203)
        have V203_ka := (Q202_VA.keep K203 (ninS (Ne.symm ne_b200_ka) (nin0)))
        have V203_ha := (Q202_VH.keep K203 (ninS (Ne.symm ne_b200_ha) (nin0)))
        have V203_sa := (Q202_VS.keep K203 (ninS (Ne.symm ne_b200_sa) (nin0)))
        have P203 := (P202.trans K203 (allS (Or.inr lt_b200) (all0)))
        show Go _ _ _ _ _ _ _ _ _ _ _ h203 4 21 (mkF m 52 #[.val (.int p0), .val (.int p1), .val (.int p2), .val (.int (1 : Int32)), .val (.int (0 : Int32)), .val (.int (2 : Int32)), .val (.int (4 : Int32)), .val (.ref b200), .unset, .unset] []) _
        refine Jvm.OwnWp.aload K at_52 rfl rfl (pc' := 54) rfl ?_
        refine Jvm.OwnWp.iload K at_54 rfl (pc' := 56) rfl ?_
        refine callVirt K (y := (⟨"com/example/sightline/sightline/checker/ByActivity", "bump", "(I)V"⟩ : MethodName)) (b := b200) (argsL := [(.int (0 : Int32))]) (S := []) (wd18 hw) (wd19 hw) (wd21 hw) (wd20 hw) (wd3 hw) (wd22 hw) (by decide) X203_b200 (c_bumpN l Z a0 hw [] b200 ka ha sa 2 1 4616375314166007746 [0, 4611686018427387904] Hl Sl 0 h203 n0 (Nat.le_trans Z0 P203.1) rfl wf.1 wf.2.1 (by decide) (by decide) wf.2.2.2.1 (by decide) (by decide) (Jvm.Free.Fl.val64_no.mpr (by decide +kernel)) (by decide +kernel) (abs1 wf rt (by decide) (by decide)) X203_b200 Q203_F_act Q203_F_heap Q203_F_slot Q203_F_count Q203_F_gain Q203_F_choices V203_ka V203_ha V203_sa (Ne.symm ne_b200_ka) (Ne.symm ne_b200_ha) (Ne.symm ne_b200_sa) ne_ha_ka ne_sa_ka ne_sa_ha ge_b200 ge_ka ge_ha ge_sa) (lenOf pd1 rfl) at_56 rfl (Nat.le_of_ble_eq_true rfl) (Nat.le_of_ble_eq_true rfl) (Nat.le_of_ble_eq_true rfl) (Nat.le_of_ble_eq_true rfl) rfl (pc' := 59) rfl ?_
        rintro v204 h204 ⟨rfl, K204, Q204_E, Q204_F_act, Q204_F_heap, Q204_F_slot, Q204_F_count, Q204_F_gain, Q204_F_choices, Q204_VA, Q204_VH, Q204_VS⟩
        have X204_b200 := (Exa.keep X203_b200 K204)
        have P204 := (P203.trans K204 (allS (Or.inr lt_b200) (allS (Or.inr lt_ka) (allS (Or.inr lt_ha) (allS (Or.inr lt_sa) (all0))))))
        show Go _ _ _ _ _ _ _ _ _ _ _ h204 4 21 (mkF m 59 #[.val (.int p0), .val (.int p1), .val (.int p2), .val (.int (1 : Int32)), .val (.int (0 : Int32)), .val (.int (2 : Int32)), .val (.int (4 : Int32)), .val (.ref b200), .unset, .unset] []) _
        rw [show ([0, 4611686018427387904].set 0 (FP.dadd ([0, 4611686018427387904].getD 0 0) 4616375314166007746)) = [4616375314166007746, 4611686018427387904] from (by decide +kernel)] at Q204_VA Q204_VH Q204_VS
        have hA2 : Nums [4616375314166007746, 4611686018427387904] := nums2 (by unfold Jvm.OwnHeap.Num; decide +kernel) (by unfold Jvm.OwnHeap.Num; decide +kernel)
        have wf2 := (push_spec (by decide) hA2 wf ord1 (by decide) (by decide : 0 < 2) (abs1 wf rt (by decide) (by decide))).1
        have rt2 := push_root (A := [4616375314166007746, 4611686018427387904]) (c := 0) (S := Sl) wf.1 rt
        rw [if_pos (by decide +kernel)] at rt2
        generalize pushB [4616375314166007746, 4611686018427387904] 0 Hl Sl 1 = U204 at *
        have Q204_F_count : Fld Z h204 b200 "com/example/sightline/sightline/checker/ByActivity" "count" "I" (.int (Int32.ofNat 2)) := Q204_F_count
        refine Jvm.OwnWp.iload K at_59 rfl (pc' := 61) rfl ?_
        refine Jvm.OwnWp.iconst K (1 : Int32) at_61 (by decide) (pc' := 62) rfl ?_
        refine icY K at_62 (by decide) (pc' := 71) (by decide) (by decide) ?_
        refine Jvm.OwnWp.iload K at_71 rfl (pc' := 73) rfl ?_
        refine Jvm.OwnWp.iconst K (2 : Int32) at_73 (by decide) (pc' := 74) rfl ?_
        refine icN K at_74 (by decide) (pc' := 77) rfl ?_
        refine Jvm.OwnWp.iload K at_77 rfl (pc' := 79) rfl ?_
        refine Jvm.OwnWp.iconst K (2 : Int32) at_79 (by decide) (pc' := 80) rfl ?_
        refine icY K at_80 (by decide) (pc' := 95) (by decide) (by decide) ?_
        refine Jvm.OwnWp.iconst K (1 : Int32) at_95 (by decide) (pc' := 96) rfl ?_
        refine goto' K at_96 (pc' := 100) (by decide) (by decide) ?_
        refine Jvm.OwnWp.istore K at_100 (Ls' := #[.val (.int p0), .val (.int p1), .val (.int p2), .val (.int (1 : Int32)), .val (.int (0 : Int32)), .val (.int (2 : Int32)), .val (.int (4 : Int32)), .val (.ref b200), .val (.int (1 : Int32)), .unset]) rfl (pc' := 102) rfl ?_
        refine Jvm.OwnWp.iload K at_102 rfl (pc' := 104) rfl ?_
        refine ifN K at_104 (by decide) (pc' := 107) rfl ?_
        refine Jvm.OwnWp.iload K at_107 rfl (pc' := 109) rfl ?_
        refine goto' K at_109 (pc' := 113) (by decide) (by decide) ?_
        refine Jvm.OwnWp.istore K at_113 (Ls' := #[.val (.int p0), .val (.int p1), .val (.int p2), .val (.int (1 : Int32)), .val (.int (0 : Int32)), .val (.int (2 : Int32)), .val (.int (4 : Int32)), .val (.ref b200), .val (.int (1 : Int32)), .val (.int (0 : Int32))]) rfl (pc' := 115) rfl ?_
        refine Jvm.OwnWp.aload K at_115 rfl rfl (pc' := 117) rfl ?_
        refine callVirt K (y := (⟨"com/example/sightline/sightline/checker/ByActivity", "pop", "()I"⟩ : MethodName)) (b := b200) (argsL := []) (S := []) (wd60 hw) (wd61 hw) (wd63 hw) (wd62 hw) (wd3 hw) (wd64 hw) (by decide) Q204_E (c_pop l Z a0 hw [] b200 ka ha sa 2 2 4616375314166007746 [4616375314166007746, 4611686018427387904] U204.1 U204.2 h204 n0 (Nat.le_trans Z0 P204.1) rfl wf2.1 wf2.2.1 (by decide) (by decide) wf2.2.2.2.1 (by decide) (by decide) Q204_E Q204_F_act Q204_F_heap Q204_F_slot Q204_F_count Q204_F_gain Q204_F_choices Q204_VA Q204_VH Q204_VS (Ne.symm ne_b200_ka) (Ne.symm ne_b200_ha) (Ne.symm ne_b200_sa) ne_ha_ka ne_sa_ka ne_sa_ha ge_b200 ge_ka ge_ha ge_sa) (lenOf pd6 rfl) at_117 rfl (Nat.le_of_ble_eq_true rfl) (Nat.le_of_ble_eq_true rfl) (Nat.le_of_ble_eq_true rfl) (Nat.le_of_ble_eq_true rfl) rfl (pc' := 120) rfl ?_
        rintro v205 h205 ⟨rfl, K205, Q205_E, Q205_F_act, Q205_F_heap, Q205_F_slot, Q205_F_count, Q205_F_gain, Q205_F_choices, Q205_VA, Q205_VH, Q205_VS⟩
        have X205_b200 := (Exa.keep Q204_E K205)
        have V205_ka := (Q204_VA.keep K205 (ninS (Ne.symm ne_b200_ka) (ninS (Ne.symm ne_ha_ka) (ninS (Ne.symm ne_sa_ka) (nin0)))))
        have P205 := (P204.trans K205 (allS (Or.inr lt_b200) (allS (Or.inr lt_ha) (allS (Or.inr lt_sa) (all0)))))
        show Go _ _ _ _ _ _ _ _ _ _ _ h205 4 21 (mkF m 120 #[.val (.int p0), .val (.int p1), .val (.int p2), .val (.int (1 : Int32)), .val (.int (0 : Int32)), .val (.int (2 : Int32)), .val (.int (4 : Int32)), .val (.ref b200), .val (.int (1 : Int32)), .val (.int (0 : Int32))] [(.int (Int32.ofNat (U204.1.getD 0 0)))]) _
        rw [rt2, show Int32.ofNat 0 = 0 from rfl]
        refine Jvm.OwnWp.iload K at_120 rfl (pc' := 122) rfl ?_
        refine icN K at_122 (by decide) (pc' := 125) rfl ?_
        refine Jvm.OwnWp.iconst K (1 : Int32) at_125 (by decide) (pc' := 126) rfl ?_
        refine goto' K at_126 (pc' := 130) (by decide) (by decide) ?_
        refine retB K (t := .boolean) rfl (by simp) at_130 (Nat.le_of_ble_eq_true rfl) (Nat.le_of_ble_eq_true rfl) ?_
        rfl
    · rcases own_k p2 with qk | qk | qk | qk | qk
      · refine Jvm.OwnWp.iloadN K at_0 rfl (pc' := 1) rfl ?_
        refine Jvm.OwnWp.iconst K (1 : Int32) at_1 (by decide) (pc' := 2) rfl ?_
        refine Jvm.OwnWp.iand K at_2 (pc' := 3) rfl ?_
        rw [qa]
        refine Jvm.OwnWp.istoreN K at_3 (Ls' := #[.val (.int p0), .val (.int p1), .val (.int p2), .val (.int (1 : Int32)), .unset, .unset, .unset, .unset, .unset, .unset]) rfl (pc' := 4) rfl ?_
        refine Jvm.OwnWp.iconst K (1 : Int32) at_4 (by decide) (pc' := 5) rfl ?_
        refine Jvm.OwnWp.iloadN K at_5 rfl (pc' := 6) rfl ?_
        refine Jvm.OwnWp.isub K at_6 (pc' := 7) rfl ?_
        rw [show (1 : Int32) - 1 = 0 by decide]
        refine Jvm.OwnWp.istore K at_7 (Ls' := #[.val (.int p0), .val (.int p1), .val (.int p2), .val (.int (1 : Int32)), .val (.int (0 : Int32)), .unset, .unset, .unset, .unset, .unset]) rfl (pc' := 9) rfl ?_
        refine Jvm.OwnWp.iconst K (1 : Int32) at_9 (by decide) (pc' := 10) rfl ?_
        refine Jvm.OwnWp.iloadN K at_10 rfl (pc' := 11) rfl ?_
        refine Jvm.OwnWp.ldcI K (wd0 hw) at_11 (pc' := 13) rfl ?_
        refine Jvm.OwnWp.iand K at_13 (pc' := 14) rfl ?_
        refine Jvm.OwnWp.iconst K (3 : Int32) at_14 (by decide) (pc' := 15) rfl ?_
        refine Jvm.OwnWp.irem K at_15 (by decide) (pc' := 16) rfl ?_
        rw [qm]
        refine Jvm.OwnWp.iadd K at_16 (pc' := 17) rfl ?_
        rw [show (1 : Int32) + 2 = 3 by decide]
        refine Jvm.OwnWp.istore K at_17 (Ls' := #[.val (.int p0), .val (.int p1), .val (.int p2), .val (.int (1 : Int32)), .val (.int (0 : Int32)), .val (.int (3 : Int32)), .unset, .unset, .unset, .unset]) rfl (pc' := 19) rfl ?_
        refine Jvm.OwnWp.iloadN K at_19 rfl (pc' := 20) rfl ?_
        refine Jvm.OwnWp.ldcI K (wd0 hw) at_20 (pc' := 22) rfl ?_
        refine Jvm.OwnWp.iand K at_22 (pc' := 23) rfl ?_
        refine Jvm.OwnWp.iconst K (5 : Int32) at_23 (by decide) (pc' := 24) rfl ?_
        refine Jvm.OwnWp.irem K at_24 (by decide) (pc' := 25) rfl ?_
        rw [qk]
        refine Jvm.OwnWp.istore K at_25 (Ls' := #[.val (.int p0), .val (.int p1), .val (.int p2), .val (.int (1 : Int32)), .val (.int (0 : Int32)), .val (.int (3 : Int32)), .val (.int (0 : Int32)), .unset, .unset, .unset]) rfl (pc' := 27) rfl ?_
        refine newObj K (wd1 hw) (wd2 hw) (wd3 hw) at_27 (by decide) (by decide) (pc' := 30) rfl ?_
        intro h206 b206 g206 E206 A206 D206
        have lt_b206 : h0.size ≤ b206 := Nat.le_trans P0.1 (Nat.le_of_eq g206.symm)
        have ge_b206 : n0 ≤ b206 := Nat.le_trans Z0 lt_b206
        have P206 := (P0.ext E206)
        have F206_gain_b206 : Fld Z h206 b206 "com/example/sightline/sightline/checker/ByActivity" "gain" "D" (.double (0 : UInt64)) := D206 (Or.inl (wd11 hw)) (ty := .double) (by decide)
        have F206_choices_b206 : Fld Z h206 b206 "com/example/sightline/sightline/checker/ByActivity" "choices" "I" (.int (0 : Int32)) := D206 (Or.inr (wd13 hw)) (ty := .int) (by decide)
        have F206_activity_b206 : Fld Z h206 b206 "com/example/sightline/sightline/checker/ByActivity" "activity" "[D" .null := D206 (Or.inl (wd24 hw)) (ty := (.array .double)) (by decide)
        have F206_heap_b206 : Fld Z h206 b206 "com/example/sightline/sightline/checker/ByActivity" "heap" "[I" .null := D206 (Or.inl (wd28 hw)) (ty := (.array .int)) (by decide)
        have F206_slot_b206 : Fld Z h206 b206 "com/example/sightline/sightline/checker/ByActivity" "slot" "[I" .null := D206 (Or.inl (wd30 hw)) (ty := (.array .int)) (by decide)
        have F206_count_b206 : Fld Z h206 b206 "com/example/sightline/sightline/checker/ByActivity" "count" "I" (.int (0 : Int32)) := D206 (Or.inl (wd42 hw)) (ty := .int) (by decide)
        refine Jvm.OwnWp.dup K at_30 rfl (pc' := 31) rfl ?_
        refine Jvm.OwnWp.iconst K (2 : Int32) at_31 (by decide) (pc' := 32) rfl ?_
        refine callInit K (y := (⟨"com/example/sightline/sightline/checker/ByActivity", "<init>", "(I)V"⟩ : MethodName)) (b := b206) (argsL := [(.int (2 : Int32))]) (S := [(.ref b206)]) rfl (wd4 hw) (wd5 hw) (wd3 hw) (wd6 hw) rfl (by decide) (c_init l Z a0 hw [] b206 2 h206 n0 (Nat.le_trans Z0 P206.1) A206 ge_b206 F206_gain_b206 F206_choices_b206 F206_activity_b206 F206_heap_b206 F206_slot_b206 F206_count_b206) (lenOf pd1 rfl) at_32 rfl (Nat.le_of_ble_eq_true rfl) (Nat.le_of_ble_eq_true rfl) (Nat.le_of_ble_eq_true rfl) (Nat.le_of_ble_eq_true rfl) rfl (pc' := 35) rfl ?_
        rintro v207 h207 ⟨rfl, K207, I207_gain, I207_choices, I207_activity, I207_heap, I207_slot, I207_count⟩
        have X207_b206 := (Exa.keep A206 K207)
        have P207 := (P206.trans K207 (allS (Or.inr lt_b206) (all0)))
        show Go _ _ _ _ _ _ _ _ _ _ _ h207 1 6 (mkF m 35 #[.val (.int p0), .val (.int p1), .val (.int p2), .val (.int (1 : Int32)), .val (.int (0 : Int32)), .val (.int (3 : Int32)), .val (.int (0 : Int32)), .unset, .unset, .unset] [(.ref b206)]) _
        refine Jvm.OwnWp.astore K at_35 rfl (Ls' := #[.val (.int p0), .val (.int p1), .val (.int p2), .val (.int (1 : Int32)), .val (.int (0 : Int32)), .val (.int (3 : Int32)), .val (.int (0 : Int32)), .val (.ref b206), .unset, .unset]) rfl (pc' := 37) rfl ?_
        refine Jvm.OwnWp.aload K at_37 rfl rfl (pc' := 39) rfl ?_
        refine Jvm.OwnWp.iloadN K at_39 rfl (pc' := 40) rfl ?_
        refine Jvm.OwnWp.iload K at_40 rfl (pc' := 42) rfl ?_
        refine callStatic K (y := (⟨"com/example/sightline/sightline/checker/ByActivityDecayPinLaw", "bumps", "(Lcom/example/sightline/sightline/checker/ByActivity;II)V"⟩ : MethodName)) (argsL := [(.ref b206), (.int (1 : Int32)), (.int (3 : Int32))]) (S := []) (wd14 hw) (wd15 hw) (wd16 hw) (wd17 hw) (by decide) (c_b13 l Z a0 hw [] b206 h207 n0 (Nat.le_trans Z0 P207.1) X207_b206 I207_activity I207_heap I207_slot I207_count I207_gain I207_choices ge_b206) (lenOf pd4 rfl) at_42 rfl (Nat.le_of_ble_eq_true rfl) (Nat.le_of_ble_eq_true rfl) (Nat.le_of_ble_eq_true rfl) (Nat.le_of_ble_eq_true rfl) rfl (pc' := 45) rfl ?_
        rintro v208 h208 ⟨rfl, K208, ka, ha, sa, Hl, Sl, zk, zh, zs, ne_ha_ka, ne_sa_ka, ne_sa_ha, wf, rt, Q208_E, Q208_F_act, Q208_F_heap, Q208_F_slot, Q208_F_count, Q208_F_gain, Q208_F_choices, Q208_VA, Q208_VH, Q208_VS⟩
        have ne_b206_ka : b206 ≠ ka := Nat.ne_of_lt (Nat.lt_of_lt_of_le (Exa.lt X207_b206) zk)
        have lt_ka : h0.size ≤ ka := Nat.le_trans P207.1 zk
        have ge_ka : n0 ≤ ka := Nat.le_trans Z0 lt_ka
        have ne_b206_ha : b206 ≠ ha := Nat.ne_of_lt (Nat.lt_of_lt_of_le (Exa.lt X207_b206) zh)
        have lt_ha : h0.size ≤ ha := Nat.le_trans P207.1 zh
        have ge_ha : n0 ≤ ha := Nat.le_trans Z0 lt_ha
        have ne_b206_sa : b206 ≠ sa := Nat.ne_of_lt (Nat.lt_of_lt_of_le (Exa.lt X207_b206) zs)
        have lt_sa : h0.size ≤ sa := Nat.le_trans P207.1 zs
        have ge_sa : n0 ≤ sa := Nat.le_trans Z0 lt_sa
        have X208_b206 := (Exa.keep X207_b206 K208)
        have P208 := (P207.trans K208 (allS (Or.inr lt_b206) (all0)))
        show Go _ _ _ _ _ _ _ _ _ _ _ h208 4 21 (mkF m 45 #[.val (.int p0), .val (.int p1), .val (.int p2), .val (.int (1 : Int32)), .val (.int (0 : Int32)), .val (.int (3 : Int32)), .val (.int (0 : Int32)), .val (.ref b206), .unset, .unset] []) _
        refine Jvm.OwnWp.aload K at_45 rfl rfl (pc' := 47) rfl ?_
        refine Jvm.OwnWp.iload K at_47 rfl (pc' := 49) rfl ?_
        refine callStatic K (y := (⟨"com/example/sightline/sightline/checker/ByActivityDecayPinLaw", "decays", "(Lcom/example/sightline/sightline/checker/ByActivity;I)V"⟩ : MethodName)) (argsL := [(.ref b206), (.int (0 : Int32))]) (S := []) (wd51 hw) (wd52 hw) (wd16 hw) (wd53 hw) (by decide) (c_dec0 l Z a0 hw [] b206 ka ha sa h208 n0 (Nat.le_trans Z0 P208.1) Q208_E Q208_F_act Q208_F_heap Q208_F_slot Q208_F_count Q208_F_gain Q208_F_choices ge_b206) (lenOf pd5 rfl) at_49 rfl (Nat.le_of_ble_eq_true rfl) (Nat.le_of_ble_eq_true rfl) (Nat.le_of_ble_eq_true rfl) (Nat.le_of_ble_eq_true rfl) rfl (pc' := 52) rfl ?_
        rintro v209 h209 ⟨rfl, K209, Q209_F_act, Q209_F_heap, Q209_F_slot, Q209_F_count, Q209_F_gain, Q209_F_choices⟩
        have X209_b206 := (Exa.keep Q208_E K209)
        have V209_ka := (Q208_VA.keep K209 (ninS (Ne.symm ne_b206_ka) (nin0)))
        have V209_ha := (Q208_VH.keep K209 (ninS (Ne.symm ne_b206_ha) (nin0)))
        have V209_sa := (Q208_VS.keep K209 (ninS (Ne.symm ne_b206_sa) (nin0)))
        have P209 := (P208.trans K209 (allS (Or.inr lt_b206) (all0)))
        show Go _ _ _ _ _ _ _ _ _ _ _ h209 4 21 (mkF m 52 #[.val (.int p0), .val (.int p1), .val (.int p2), .val (.int (1 : Int32)), .val (.int (0 : Int32)), .val (.int (3 : Int32)), .val (.int (0 : Int32)), .val (.ref b206), .unset, .unset] []) _
        refine Jvm.OwnWp.aload K at_52 rfl rfl (pc' := 54) rfl ?_
        refine Jvm.OwnWp.iload K at_54 rfl (pc' := 56) rfl ?_
        refine callVirt K (y := (⟨"com/example/sightline/sightline/checker/ByActivity", "bump", "(I)V"⟩ : MethodName)) (b := b206) (argsL := [(.int (0 : Int32))]) (S := []) (wd18 hw) (wd19 hw) (wd21 hw) (wd20 hw) (wd3 hw) (wd22 hw) (by decide) X209_b206 (c_bumpN l Z a0 hw [] b206 ka ha sa 2 1 4607182418800017408 [0, 4613937818241073152] Hl Sl 0 h209 n0 (Nat.le_trans Z0 P209.1) rfl wf.1 wf.2.1 (by decide) (by decide) wf.2.2.2.1 (by decide) (by decide) (Jvm.Free.Fl.val64_no.mpr (by decide +kernel)) (by decide +kernel) (abs1 wf rt (by decide) (by decide)) X209_b206 Q209_F_act Q209_F_heap Q209_F_slot Q209_F_count Q209_F_gain Q209_F_choices V209_ka V209_ha V209_sa (Ne.symm ne_b206_ka) (Ne.symm ne_b206_ha) (Ne.symm ne_b206_sa) ne_ha_ka ne_sa_ka ne_sa_ha ge_b206 ge_ka ge_ha ge_sa) (lenOf pd1 rfl) at_56 rfl (Nat.le_of_ble_eq_true rfl) (Nat.le_of_ble_eq_true rfl) (Nat.le_of_ble_eq_true rfl) (Nat.le_of_ble_eq_true rfl) rfl (pc' := 59) rfl ?_
        rintro v210 h210 ⟨rfl, K210, Q210_E, Q210_F_act, Q210_F_heap, Q210_F_slot, Q210_F_count, Q210_F_gain, Q210_F_choices, Q210_VA, Q210_VH, Q210_VS⟩
        have X210_b206 := (Exa.keep X209_b206 K210)
        have P210 := (P209.trans K210 (allS (Or.inr lt_b206) (allS (Or.inr lt_ka) (allS (Or.inr lt_ha) (allS (Or.inr lt_sa) (all0))))))
        show Go _ _ _ _ _ _ _ _ _ _ _ h210 4 21 (mkF m 59 #[.val (.int p0), .val (.int p1), .val (.int p2), .val (.int (1 : Int32)), .val (.int (0 : Int32)), .val (.int (3 : Int32)), .val (.int (0 : Int32)), .val (.ref b206), .unset, .unset] []) _
        rw [show ([0, 4613937818241073152].set 0 (FP.dadd ([0, 4613937818241073152].getD 0 0) 4607182418800017408)) = [4607182418800017408, 4613937818241073152] from (by decide +kernel)] at Q210_VA Q210_VH Q210_VS
        have hA2 : Nums [4607182418800017408, 4613937818241073152] := nums2 (by unfold Jvm.OwnHeap.Num; decide +kernel) (by unfold Jvm.OwnHeap.Num; decide +kernel)
        have wf2 := (push_spec (by decide) hA2 wf ord1 (by decide) (by decide : 0 < 2) (abs1 wf rt (by decide) (by decide))).1
        have rt2 := push_root (A := [4607182418800017408, 4613937818241073152]) (c := 0) (S := Sl) wf.1 rt
        rw [if_neg (by decide +kernel)] at rt2
        generalize pushB [4607182418800017408, 4613937818241073152] 0 Hl Sl 1 = U210 at *
        have Q210_F_count : Fld Z h210 b206 "com/example/sightline/sightline/checker/ByActivity" "count" "I" (.int (Int32.ofNat 2)) := Q210_F_count
        refine Jvm.OwnWp.iload K at_59 rfl (pc' := 61) rfl ?_
        refine Jvm.OwnWp.iconst K (1 : Int32) at_61 (by decide) (pc' := 62) rfl ?_
        refine icY K at_62 (by decide) (pc' := 71) (by decide) (by decide) ?_
        refine Jvm.OwnWp.iload K at_71 rfl (pc' := 73) rfl ?_
        refine Jvm.OwnWp.iconst K (2 : Int32) at_73 (by decide) (pc' := 74) rfl ?_
        refine icY K at_74 (by decide) (pc' := 83) (by decide) (by decide) ?_
        refine Jvm.OwnWp.iload K at_83 rfl (pc' := 85) rfl ?_
        refine Jvm.OwnWp.iconst K (3 : Int32) at_85 (by decide) (pc' := 86) rfl ?_
        refine icN K at_86 (by decide) (pc' := 89) rfl ?_
        refine Jvm.OwnWp.iload K at_89 rfl (pc' := 91) rfl ?_
        refine Jvm.OwnWp.iconst K (4 : Int32) at_91 (by decide) (pc' := 92) rfl ?_
        refine icY K at_92 (by decide) (pc' := 99) (by decide) (by decide) ?_
        refine Jvm.OwnWp.iconst K (0 : Int32) at_99 (by decide) (pc' := 100) rfl ?_
        refine Jvm.OwnWp.istore K at_100 (Ls' := #[.val (.int p0), .val (.int p1), .val (.int p2), .val (.int (1 : Int32)), .val (.int (0 : Int32)), .val (.int (3 : Int32)), .val (.int (0 : Int32)), .val (.ref b206), .val (.int (0 : Int32)), .unset]) rfl (pc' := 102) rfl ?_
        refine Jvm.OwnWp.iload K at_102 rfl (pc' := 104) rfl ?_
        refine ifY K at_104 (by decide) (pc' := 112) (by decide) (by decide) ?_
        refine Jvm.OwnWp.iloadN K at_112 rfl (pc' := 113) rfl ?_
        refine Jvm.OwnWp.istore K at_113 (Ls' := #[.val (.int p0), .val (.int p1), .val (.int p2), .val (.int (1 : Int32)), .val (.int (0 : Int32)), .val (.int (3 : Int32)), .val (.int (0 : Int32)), .val (.ref b206), .val (.int (0 : Int32)), .val (.int (1 : Int32))]) rfl (pc' := 115) rfl ?_
        refine Jvm.OwnWp.aload K at_115 rfl rfl (pc' := 117) rfl ?_
        refine callVirt K (y := (⟨"com/example/sightline/sightline/checker/ByActivity", "pop", "()I"⟩ : MethodName)) (b := b206) (argsL := []) (S := []) (wd60 hw) (wd61 hw) (wd63 hw) (wd62 hw) (wd3 hw) (wd64 hw) (by decide) Q210_E (c_pop l Z a0 hw [] b206 ka ha sa 2 2 4607182418800017408 [4607182418800017408, 4613937818241073152] U210.1 U210.2 h210 n0 (Nat.le_trans Z0 P210.1) rfl wf2.1 wf2.2.1 (by decide) (by decide) wf2.2.2.2.1 (by decide) (by decide) Q210_E Q210_F_act Q210_F_heap Q210_F_slot Q210_F_count Q210_F_gain Q210_F_choices Q210_VA Q210_VH Q210_VS (Ne.symm ne_b206_ka) (Ne.symm ne_b206_ha) (Ne.symm ne_b206_sa) ne_ha_ka ne_sa_ka ne_sa_ha ge_b206 ge_ka ge_ha ge_sa) (lenOf pd6 rfl) at_117 rfl (Nat.le_of_ble_eq_true rfl) (Nat.le_of_ble_eq_true rfl) (Nat.le_of_ble_eq_true rfl) (Nat.le_of_ble_eq_true rfl) rfl (pc' := 120) rfl ?_
        rintro v211 h211 ⟨rfl, K211, Q211_E, Q211_F_act, Q211_F_heap, Q211_F_slot, Q211_F_count, Q211_F_gain, Q211_F_choices, Q211_VA, Q211_VH, Q211_VS⟩
        have X211_b206 := (Exa.keep Q210_E K211)
        have V211_ka := (Q210_VA.keep K211 (ninS (Ne.symm ne_b206_ka) (ninS (Ne.symm ne_ha_ka) (ninS (Ne.symm ne_sa_ka) (nin0)))))
        have P211 := (P210.trans K211 (allS (Or.inr lt_b206) (allS (Or.inr lt_ha) (allS (Or.inr lt_sa) (all0)))))
        show Go _ _ _ _ _ _ _ _ _ _ _ h211 4 21 (mkF m 120 #[.val (.int p0), .val (.int p1), .val (.int p2), .val (.int (1 : Int32)), .val (.int (0 : Int32)), .val (.int (3 : Int32)), .val (.int (0 : Int32)), .val (.ref b206), .val (.int (0 : Int32)), .val (.int (1 : Int32))] [(.int (Int32.ofNat (U210.1.getD 0 0)))]) _
        rw [rt2, show Int32.ofNat 1 = 1 from rfl]
        refine Jvm.OwnWp.iload K at_120 rfl (pc' := 122) rfl ?_
        refine icN K at_122 (by decide) (pc' := 125) rfl ?_
        refine Jvm.OwnWp.iconst K (1 : Int32) at_125 (by decide) (pc' := 126) rfl ?_
        refine goto' K at_126 (pc' := 130) (by decide) (by decide) ?_
        refine retB K (t := .boolean) rfl (by simp) at_130 (Nat.le_of_ble_eq_true rfl) (Nat.le_of_ble_eq_true rfl) ?_
        rfl
      · refine Jvm.OwnWp.iloadN K at_0 rfl (pc' := 1) rfl ?_
        refine Jvm.OwnWp.iconst K (1 : Int32) at_1 (by decide) (pc' := 2) rfl ?_
        refine Jvm.OwnWp.iand K at_2 (pc' := 3) rfl ?_
        rw [qa]
        refine Jvm.OwnWp.istoreN K at_3 (Ls' := #[.val (.int p0), .val (.int p1), .val (.int p2), .val (.int (1 : Int32)), .unset, .unset, .unset, .unset, .unset, .unset]) rfl (pc' := 4) rfl ?_
        refine Jvm.OwnWp.iconst K (1 : Int32) at_4 (by decide) (pc' := 5) rfl ?_
        refine Jvm.OwnWp.iloadN K at_5 rfl (pc' := 6) rfl ?_
        refine Jvm.OwnWp.isub K at_6 (pc' := 7) rfl ?_
        rw [show (1 : Int32) - 1 = 0 by decide]
        refine Jvm.OwnWp.istore K at_7 (Ls' := #[.val (.int p0), .val (.int p1), .val (.int p2), .val (.int (1 : Int32)), .val (.int (0 : Int32)), .unset, .unset, .unset, .unset, .unset]) rfl (pc' := 9) rfl ?_
        refine Jvm.OwnWp.iconst K (1 : Int32) at_9 (by decide) (pc' := 10) rfl ?_
        refine Jvm.OwnWp.iloadN K at_10 rfl (pc' := 11) rfl ?_
        refine Jvm.OwnWp.ldcI K (wd0 hw) at_11 (pc' := 13) rfl ?_
        refine Jvm.OwnWp.iand K at_13 (pc' := 14) rfl ?_
        refine Jvm.OwnWp.iconst K (3 : Int32) at_14 (by decide) (pc' := 15) rfl ?_
        refine Jvm.OwnWp.irem K at_15 (by decide) (pc' := 16) rfl ?_
        rw [qm]
        refine Jvm.OwnWp.iadd K at_16 (pc' := 17) rfl ?_
        rw [show (1 : Int32) + 2 = 3 by decide]
        refine Jvm.OwnWp.istore K at_17 (Ls' := #[.val (.int p0), .val (.int p1), .val (.int p2), .val (.int (1 : Int32)), .val (.int (0 : Int32)), .val (.int (3 : Int32)), .unset, .unset, .unset, .unset]) rfl (pc' := 19) rfl ?_
        refine Jvm.OwnWp.iloadN K at_19 rfl (pc' := 20) rfl ?_
        refine Jvm.OwnWp.ldcI K (wd0 hw) at_20 (pc' := 22) rfl ?_
        refine Jvm.OwnWp.iand K at_22 (pc' := 23) rfl ?_
        refine Jvm.OwnWp.iconst K (5 : Int32) at_23 (by decide) (pc' := 24) rfl ?_
        refine Jvm.OwnWp.irem K at_24 (by decide) (pc' := 25) rfl ?_
        rw [qk]
        refine Jvm.OwnWp.istore K at_25 (Ls' := #[.val (.int p0), .val (.int p1), .val (.int p2), .val (.int (1 : Int32)), .val (.int (0 : Int32)), .val (.int (3 : Int32)), .val (.int (1 : Int32)), .unset, .unset, .unset]) rfl (pc' := 27) rfl ?_
        refine newObj K (wd1 hw) (wd2 hw) (wd3 hw) at_27 (by decide) (by decide) (pc' := 30) rfl ?_
        intro h212 b212 g212 E212 A212 D212
        have lt_b212 : h0.size ≤ b212 := Nat.le_trans P0.1 (Nat.le_of_eq g212.symm)
        have ge_b212 : n0 ≤ b212 := Nat.le_trans Z0 lt_b212
        have P212 := (P0.ext E212)
        have F212_gain_b212 : Fld Z h212 b212 "com/example/sightline/sightline/checker/ByActivity" "gain" "D" (.double (0 : UInt64)) := D212 (Or.inl (wd11 hw)) (ty := .double) (by decide)
        have F212_choices_b212 : Fld Z h212 b212 "com/example/sightline/sightline/checker/ByActivity" "choices" "I" (.int (0 : Int32)) := D212 (Or.inr (wd13 hw)) (ty := .int) (by decide)
        have F212_activity_b212 : Fld Z h212 b212 "com/example/sightline/sightline/checker/ByActivity" "activity" "[D" .null := D212 (Or.inl (wd24 hw)) (ty := (.array .double)) (by decide)
        have F212_heap_b212 : Fld Z h212 b212 "com/example/sightline/sightline/checker/ByActivity" "heap" "[I" .null := D212 (Or.inl (wd28 hw)) (ty := (.array .int)) (by decide)
        have F212_slot_b212 : Fld Z h212 b212 "com/example/sightline/sightline/checker/ByActivity" "slot" "[I" .null := D212 (Or.inl (wd30 hw)) (ty := (.array .int)) (by decide)
        have F212_count_b212 : Fld Z h212 b212 "com/example/sightline/sightline/checker/ByActivity" "count" "I" (.int (0 : Int32)) := D212 (Or.inl (wd42 hw)) (ty := .int) (by decide)
        refine Jvm.OwnWp.dup K at_30 rfl (pc' := 31) rfl ?_
        refine Jvm.OwnWp.iconst K (2 : Int32) at_31 (by decide) (pc' := 32) rfl ?_
        refine callInit K (y := (⟨"com/example/sightline/sightline/checker/ByActivity", "<init>", "(I)V"⟩ : MethodName)) (b := b212) (argsL := [(.int (2 : Int32))]) (S := [(.ref b212)]) rfl (wd4 hw) (wd5 hw) (wd3 hw) (wd6 hw) rfl (by decide) (c_init l Z a0 hw [] b212 2 h212 n0 (Nat.le_trans Z0 P212.1) A212 ge_b212 F212_gain_b212 F212_choices_b212 F212_activity_b212 F212_heap_b212 F212_slot_b212 F212_count_b212) (lenOf pd1 rfl) at_32 rfl (Nat.le_of_ble_eq_true rfl) (Nat.le_of_ble_eq_true rfl) (Nat.le_of_ble_eq_true rfl) (Nat.le_of_ble_eq_true rfl) rfl (pc' := 35) rfl ?_
        rintro v213 h213 ⟨rfl, K213, I213_gain, I213_choices, I213_activity, I213_heap, I213_slot, I213_count⟩
        have X213_b212 := (Exa.keep A212 K213)
        have P213 := (P212.trans K213 (allS (Or.inr lt_b212) (all0)))
        show Go _ _ _ _ _ _ _ _ _ _ _ h213 1 6 (mkF m 35 #[.val (.int p0), .val (.int p1), .val (.int p2), .val (.int (1 : Int32)), .val (.int (0 : Int32)), .val (.int (3 : Int32)), .val (.int (1 : Int32)), .unset, .unset, .unset] [(.ref b212)]) _
        refine Jvm.OwnWp.astore K at_35 rfl (Ls' := #[.val (.int p0), .val (.int p1), .val (.int p2), .val (.int (1 : Int32)), .val (.int (0 : Int32)), .val (.int (3 : Int32)), .val (.int (1 : Int32)), .val (.ref b212), .unset, .unset]) rfl (pc' := 37) rfl ?_
        refine Jvm.OwnWp.aload K at_37 rfl rfl (pc' := 39) rfl ?_
        refine Jvm.OwnWp.iloadN K at_39 rfl (pc' := 40) rfl ?_
        refine Jvm.OwnWp.iload K at_40 rfl (pc' := 42) rfl ?_
        refine callStatic K (y := (⟨"com/example/sightline/sightline/checker/ByActivityDecayPinLaw", "bumps", "(Lcom/example/sightline/sightline/checker/ByActivity;II)V"⟩ : MethodName)) (argsL := [(.ref b212), (.int (1 : Int32)), (.int (3 : Int32))]) (S := []) (wd14 hw) (wd15 hw) (wd16 hw) (wd17 hw) (by decide) (c_b13 l Z a0 hw [] b212 h213 n0 (Nat.le_trans Z0 P213.1) X213_b212 I213_activity I213_heap I213_slot I213_count I213_gain I213_choices ge_b212) (lenOf pd4 rfl) at_42 rfl (Nat.le_of_ble_eq_true rfl) (Nat.le_of_ble_eq_true rfl) (Nat.le_of_ble_eq_true rfl) (Nat.le_of_ble_eq_true rfl) rfl (pc' := 45) rfl ?_
        rintro v214 h214 ⟨rfl, K214, ka, ha, sa, Hl, Sl, zk, zh, zs, ne_ha_ka, ne_sa_ka, ne_sa_ha, wf, rt, Q214_E, Q214_F_act, Q214_F_heap, Q214_F_slot, Q214_F_count, Q214_F_gain, Q214_F_choices, Q214_VA, Q214_VH, Q214_VS⟩
        have ne_b212_ka : b212 ≠ ka := Nat.ne_of_lt (Nat.lt_of_lt_of_le (Exa.lt X213_b212) zk)
        have lt_ka : h0.size ≤ ka := Nat.le_trans P213.1 zk
        have ge_ka : n0 ≤ ka := Nat.le_trans Z0 lt_ka
        have ne_b212_ha : b212 ≠ ha := Nat.ne_of_lt (Nat.lt_of_lt_of_le (Exa.lt X213_b212) zh)
        have lt_ha : h0.size ≤ ha := Nat.le_trans P213.1 zh
        have ge_ha : n0 ≤ ha := Nat.le_trans Z0 lt_ha
        have ne_b212_sa : b212 ≠ sa := Nat.ne_of_lt (Nat.lt_of_lt_of_le (Exa.lt X213_b212) zs)
        have lt_sa : h0.size ≤ sa := Nat.le_trans P213.1 zs
        have ge_sa : n0 ≤ sa := Nat.le_trans Z0 lt_sa
        have X214_b212 := (Exa.keep X213_b212 K214)
        have P214 := (P213.trans K214 (allS (Or.inr lt_b212) (all0)))
        show Go _ _ _ _ _ _ _ _ _ _ _ h214 4 21 (mkF m 45 #[.val (.int p0), .val (.int p1), .val (.int p2), .val (.int (1 : Int32)), .val (.int (0 : Int32)), .val (.int (3 : Int32)), .val (.int (1 : Int32)), .val (.ref b212), .unset, .unset] []) _
        refine Jvm.OwnWp.aload K at_45 rfl rfl (pc' := 47) rfl ?_
        refine Jvm.OwnWp.iload K at_47 rfl (pc' := 49) rfl ?_
        refine callStatic K (y := (⟨"com/example/sightline/sightline/checker/ByActivityDecayPinLaw", "decays", "(Lcom/example/sightline/sightline/checker/ByActivity;I)V"⟩ : MethodName)) (argsL := [(.ref b212), (.int (1 : Int32))]) (S := []) (wd51 hw) (wd52 hw) (wd16 hw) (wd53 hw) (by decide) (c_dec1 l Z a0 hw [] b212 ka ha sa h214 n0 (Nat.le_trans Z0 P214.1) Q214_E Q214_F_act Q214_F_heap Q214_F_slot Q214_F_count Q214_F_gain Q214_F_choices ge_b212) (lenOf pd5 rfl) at_49 rfl (Nat.le_of_ble_eq_true rfl) (Nat.le_of_ble_eq_true rfl) (Nat.le_of_ble_eq_true rfl) (Nat.le_of_ble_eq_true rfl) rfl (pc' := 52) rfl ?_
        rintro v215 h215 ⟨rfl, K215, Q215_F_act, Q215_F_heap, Q215_F_slot, Q215_F_count, Q215_F_gain, Q215_F_choices⟩
        have X215_b212 := (Exa.keep Q214_E K215)
        have V215_ka := (Q214_VA.keep K215 (ninS (Ne.symm ne_b212_ka) (nin0)))
        have V215_ha := (Q214_VH.keep K215 (ninS (Ne.symm ne_b212_ha) (nin0)))
        have V215_sa := (Q214_VS.keep K215 (ninS (Ne.symm ne_b212_sa) (nin0)))
        have P215 := (P214.trans K215 (allS (Or.inr lt_b212) (all0)))
        show Go _ _ _ _ _ _ _ _ _ _ _ h215 4 21 (mkF m 52 #[.val (.int p0), .val (.int p1), .val (.int p2), .val (.int (1 : Int32)), .val (.int (0 : Int32)), .val (.int (3 : Int32)), .val (.int (1 : Int32)), .val (.ref b212), .unset, .unset] []) _
        refine Jvm.OwnWp.aload K at_52 rfl rfl (pc' := 54) rfl ?_
        refine Jvm.OwnWp.iload K at_54 rfl (pc' := 56) rfl ?_
        refine callVirt K (y := (⟨"com/example/sightline/sightline/checker/ByActivity", "bump", "(I)V"⟩ : MethodName)) (b := b212) (argsL := [(.int (0 : Int32))]) (S := []) (wd18 hw) (wd19 hw) (wd21 hw) (wd20 hw) (wd3 hw) (wd22 hw) (by decide) X215_b212 (c_bumpN l Z a0 hw [] b212 ka ha sa 2 1 4609112532926033335 [0, 4613937818241073152] Hl Sl 0 h215 n0 (Nat.le_trans Z0 P215.1) rfl wf.1 wf.2.1 (by decide) (by decide) wf.2.2.2.1 (by decide) (by decide) (Jvm.Free.Fl.val64_no.mpr (by decide +kernel)) (by decide +kernel) (abs1 wf rt (by decide) (by decide)) X215_b212 Q215_F_act Q215_F_heap Q215_F_slot Q215_F_count Q215_F_gain Q215_F_choices V215_ka V215_ha V215_sa (Ne.symm ne_b212_ka) (Ne.symm ne_b212_ha) (Ne.symm ne_b212_sa) ne_ha_ka ne_sa_ka ne_sa_ha ge_b212 ge_ka ge_ha ge_sa) (lenOf pd1 rfl) at_56 rfl (Nat.le_of_ble_eq_true rfl) (Nat.le_of_ble_eq_true rfl) (Nat.le_of_ble_eq_true rfl) (Nat.le_of_ble_eq_true rfl) rfl (pc' := 59) rfl ?_
        rintro v216 h216 ⟨rfl, K216, Q216_E, Q216_F_act, Q216_F_heap, Q216_F_slot, Q216_F_count, Q216_F_gain, Q216_F_choices, Q216_VA, Q216_VH, Q216_VS⟩
        have X216_b212 := (Exa.keep X215_b212 K216)
        have P216 := (P215.trans K216 (allS (Or.inr lt_b212) (allS (Or.inr lt_ka) (allS (Or.inr lt_ha) (allS (Or.inr lt_sa) (all0))))))
        show Go _ _ _ _ _ _ _ _ _ _ _ h216 4 21 (mkF m 59 #[.val (.int p0), .val (.int p1), .val (.int p2), .val (.int (1 : Int32)), .val (.int (0 : Int32)), .val (.int (3 : Int32)), .val (.int (1 : Int32)), .val (.ref b212), .unset, .unset] []) _
        rw [show ([0, 4613937818241073152].set 0 (FP.dadd ([0, 4613937818241073152].getD 0 0) 4609112532926033335)) = [4609112532926033335, 4613937818241073152] from (by decide +kernel)] at Q216_VA Q216_VH Q216_VS
        have hA2 : Nums [4609112532926033335, 4613937818241073152] := nums2 (by unfold Jvm.OwnHeap.Num; decide +kernel) (by unfold Jvm.OwnHeap.Num; decide +kernel)
        have wf2 := (push_spec (by decide) hA2 wf ord1 (by decide) (by decide : 0 < 2) (abs1 wf rt (by decide) (by decide))).1
        have rt2 := push_root (A := [4609112532926033335, 4613937818241073152]) (c := 0) (S := Sl) wf.1 rt
        rw [if_neg (by decide +kernel)] at rt2
        generalize pushB [4609112532926033335, 4613937818241073152] 0 Hl Sl 1 = U216 at *
        have Q216_F_count : Fld Z h216 b212 "com/example/sightline/sightline/checker/ByActivity" "count" "I" (.int (Int32.ofNat 2)) := Q216_F_count
        refine Jvm.OwnWp.iload K at_59 rfl (pc' := 61) rfl ?_
        refine Jvm.OwnWp.iconst K (1 : Int32) at_61 (by decide) (pc' := 62) rfl ?_
        refine icY K at_62 (by decide) (pc' := 71) (by decide) (by decide) ?_
        refine Jvm.OwnWp.iload K at_71 rfl (pc' := 73) rfl ?_
        refine Jvm.OwnWp.iconst K (2 : Int32) at_73 (by decide) (pc' := 74) rfl ?_
        refine icY K at_74 (by decide) (pc' := 83) (by decide) (by decide) ?_
        refine Jvm.OwnWp.iload K at_83 rfl (pc' := 85) rfl ?_
        refine Jvm.OwnWp.iconst K (3 : Int32) at_85 (by decide) (pc' := 86) rfl ?_
        refine icN K at_86 (by decide) (pc' := 89) rfl ?_
        refine Jvm.OwnWp.iload K at_89 rfl (pc' := 91) rfl ?_
        refine Jvm.OwnWp.iconst K (4 : Int32) at_91 (by decide) (pc' := 92) rfl ?_
        refine icY K at_92 (by decide) (pc' := 99) (by decide) (by decide) ?_
        refine Jvm.OwnWp.iconst K (0 : Int32) at_99 (by decide) (pc' := 100) rfl ?_
        refine Jvm.OwnWp.istore K at_100 (Ls' := #[.val (.int p0), .val (.int p1), .val (.int p2), .val (.int (1 : Int32)), .val (.int (0 : Int32)), .val (.int (3 : Int32)), .val (.int (1 : Int32)), .val (.ref b212), .val (.int (0 : Int32)), .unset]) rfl (pc' := 102) rfl ?_
        refine Jvm.OwnWp.iload K at_102 rfl (pc' := 104) rfl ?_
        refine ifY K at_104 (by decide) (pc' := 112) (by decide) (by decide) ?_
        refine Jvm.OwnWp.iloadN K at_112 rfl (pc' := 113) rfl ?_
        refine Jvm.OwnWp.istore K at_113 (Ls' := #[.val (.int p0), .val (.int p1), .val (.int p2), .val (.int (1 : Int32)), .val (.int (0 : Int32)), .val (.int (3 : Int32)), .val (.int (1 : Int32)), .val (.ref b212), .val (.int (0 : Int32)), .val (.int (1 : Int32))]) rfl (pc' := 115) rfl ?_
        refine Jvm.OwnWp.aload K at_115 rfl rfl (pc' := 117) rfl ?_
        refine callVirt K (y := (⟨"com/example/sightline/sightline/checker/ByActivity", "pop", "()I"⟩ : MethodName)) (b := b212) (argsL := []) (S := []) (wd60 hw) (wd61 hw) (wd63 hw) (wd62 hw) (wd3 hw) (wd64 hw) (by decide) Q216_E (c_pop l Z a0 hw [] b212 ka ha sa 2 2 4609112532926033335 [4609112532926033335, 4613937818241073152] U216.1 U216.2 h216 n0 (Nat.le_trans Z0 P216.1) rfl wf2.1 wf2.2.1 (by decide) (by decide) wf2.2.2.2.1 (by decide) (by decide) Q216_E Q216_F_act Q216_F_heap Q216_F_slot Q216_F_count Q216_F_gain Q216_F_choices Q216_VA Q216_VH Q216_VS (Ne.symm ne_b212_ka) (Ne.symm ne_b212_ha) (Ne.symm ne_b212_sa) ne_ha_ka ne_sa_ka ne_sa_ha ge_b212 ge_ka ge_ha ge_sa) (lenOf pd6 rfl) at_117 rfl (Nat.le_of_ble_eq_true rfl) (Nat.le_of_ble_eq_true rfl) (Nat.le_of_ble_eq_true rfl) (Nat.le_of_ble_eq_true rfl) rfl (pc' := 120) rfl ?_
        rintro v217 h217 ⟨rfl, K217, Q217_E, Q217_F_act, Q217_F_heap, Q217_F_slot, Q217_F_count, Q217_F_gain, Q217_F_choices, Q217_VA, Q217_VH, Q217_VS⟩
        have X217_b212 := (Exa.keep Q216_E K217)
        have V217_ka := (Q216_VA.keep K217 (ninS (Ne.symm ne_b212_ka) (ninS (Ne.symm ne_ha_ka) (ninS (Ne.symm ne_sa_ka) (nin0)))))
        have P217 := (P216.trans K217 (allS (Or.inr lt_b212) (allS (Or.inr lt_ha) (allS (Or.inr lt_sa) (all0)))))
        show Go _ _ _ _ _ _ _ _ _ _ _ h217 4 21 (mkF m 120 #[.val (.int p0), .val (.int p1), .val (.int p2), .val (.int (1 : Int32)), .val (.int (0 : Int32)), .val (.int (3 : Int32)), .val (.int (1 : Int32)), .val (.ref b212), .val (.int (0 : Int32)), .val (.int (1 : Int32))] [(.int (Int32.ofNat (U216.1.getD 0 0)))]) _
        rw [rt2, show Int32.ofNat 1 = 1 from rfl]
        refine Jvm.OwnWp.iload K at_120 rfl (pc' := 122) rfl ?_
        refine icN K at_122 (by decide) (pc' := 125) rfl ?_
        refine Jvm.OwnWp.iconst K (1 : Int32) at_125 (by decide) (pc' := 126) rfl ?_
        refine goto' K at_126 (pc' := 130) (by decide) (by decide) ?_
        refine retB K (t := .boolean) rfl (by simp) at_130 (Nat.le_of_ble_eq_true rfl) (Nat.le_of_ble_eq_true rfl) ?_
        rfl
      · refine Jvm.OwnWp.iloadN K at_0 rfl (pc' := 1) rfl ?_
        refine Jvm.OwnWp.iconst K (1 : Int32) at_1 (by decide) (pc' := 2) rfl ?_
        refine Jvm.OwnWp.iand K at_2 (pc' := 3) rfl ?_
        rw [qa]
        refine Jvm.OwnWp.istoreN K at_3 (Ls' := #[.val (.int p0), .val (.int p1), .val (.int p2), .val (.int (1 : Int32)), .unset, .unset, .unset, .unset, .unset, .unset]) rfl (pc' := 4) rfl ?_
        refine Jvm.OwnWp.iconst K (1 : Int32) at_4 (by decide) (pc' := 5) rfl ?_
        refine Jvm.OwnWp.iloadN K at_5 rfl (pc' := 6) rfl ?_
        refine Jvm.OwnWp.isub K at_6 (pc' := 7) rfl ?_
        rw [show (1 : Int32) - 1 = 0 by decide]
        refine Jvm.OwnWp.istore K at_7 (Ls' := #[.val (.int p0), .val (.int p1), .val (.int p2), .val (.int (1 : Int32)), .val (.int (0 : Int32)), .unset, .unset, .unset, .unset, .unset]) rfl (pc' := 9) rfl ?_
        refine Jvm.OwnWp.iconst K (1 : Int32) at_9 (by decide) (pc' := 10) rfl ?_
        refine Jvm.OwnWp.iloadN K at_10 rfl (pc' := 11) rfl ?_
        refine Jvm.OwnWp.ldcI K (wd0 hw) at_11 (pc' := 13) rfl ?_
        refine Jvm.OwnWp.iand K at_13 (pc' := 14) rfl ?_
        refine Jvm.OwnWp.iconst K (3 : Int32) at_14 (by decide) (pc' := 15) rfl ?_
        refine Jvm.OwnWp.irem K at_15 (by decide) (pc' := 16) rfl ?_
        rw [qm]
        refine Jvm.OwnWp.iadd K at_16 (pc' := 17) rfl ?_
        rw [show (1 : Int32) + 2 = 3 by decide]
        refine Jvm.OwnWp.istore K at_17 (Ls' := #[.val (.int p0), .val (.int p1), .val (.int p2), .val (.int (1 : Int32)), .val (.int (0 : Int32)), .val (.int (3 : Int32)), .unset, .unset, .unset, .unset]) rfl (pc' := 19) rfl ?_
        refine Jvm.OwnWp.iloadN K at_19 rfl (pc' := 20) rfl ?_
        refine Jvm.OwnWp.ldcI K (wd0 hw) at_20 (pc' := 22) rfl ?_
        refine Jvm.OwnWp.iand K at_22 (pc' := 23) rfl ?_
        refine Jvm.OwnWp.iconst K (5 : Int32) at_23 (by decide) (pc' := 24) rfl ?_
        refine Jvm.OwnWp.irem K at_24 (by decide) (pc' := 25) rfl ?_
        rw [qk]
        refine Jvm.OwnWp.istore K at_25 (Ls' := #[.val (.int p0), .val (.int p1), .val (.int p2), .val (.int (1 : Int32)), .val (.int (0 : Int32)), .val (.int (3 : Int32)), .val (.int (2 : Int32)), .unset, .unset, .unset]) rfl (pc' := 27) rfl ?_
        refine newObj K (wd1 hw) (wd2 hw) (wd3 hw) at_27 (by decide) (by decide) (pc' := 30) rfl ?_
        intro h218 b218 g218 E218 A218 D218
        have lt_b218 : h0.size ≤ b218 := Nat.le_trans P0.1 (Nat.le_of_eq g218.symm)
        have ge_b218 : n0 ≤ b218 := Nat.le_trans Z0 lt_b218
        have P218 := (P0.ext E218)
        have F218_gain_b218 : Fld Z h218 b218 "com/example/sightline/sightline/checker/ByActivity" "gain" "D" (.double (0 : UInt64)) := D218 (Or.inl (wd11 hw)) (ty := .double) (by decide)
        have F218_choices_b218 : Fld Z h218 b218 "com/example/sightline/sightline/checker/ByActivity" "choices" "I" (.int (0 : Int32)) := D218 (Or.inr (wd13 hw)) (ty := .int) (by decide)
        have F218_activity_b218 : Fld Z h218 b218 "com/example/sightline/sightline/checker/ByActivity" "activity" "[D" .null := D218 (Or.inl (wd24 hw)) (ty := (.array .double)) (by decide)
        have F218_heap_b218 : Fld Z h218 b218 "com/example/sightline/sightline/checker/ByActivity" "heap" "[I" .null := D218 (Or.inl (wd28 hw)) (ty := (.array .int)) (by decide)
        have F218_slot_b218 : Fld Z h218 b218 "com/example/sightline/sightline/checker/ByActivity" "slot" "[I" .null := D218 (Or.inl (wd30 hw)) (ty := (.array .int)) (by decide)
        have F218_count_b218 : Fld Z h218 b218 "com/example/sightline/sightline/checker/ByActivity" "count" "I" (.int (0 : Int32)) := D218 (Or.inl (wd42 hw)) (ty := .int) (by decide)
        refine Jvm.OwnWp.dup K at_30 rfl (pc' := 31) rfl ?_
        refine Jvm.OwnWp.iconst K (2 : Int32) at_31 (by decide) (pc' := 32) rfl ?_
        refine callInit K (y := (⟨"com/example/sightline/sightline/checker/ByActivity", "<init>", "(I)V"⟩ : MethodName)) (b := b218) (argsL := [(.int (2 : Int32))]) (S := [(.ref b218)]) rfl (wd4 hw) (wd5 hw) (wd3 hw) (wd6 hw) rfl (by decide) (c_init l Z a0 hw [] b218 2 h218 n0 (Nat.le_trans Z0 P218.1) A218 ge_b218 F218_gain_b218 F218_choices_b218 F218_activity_b218 F218_heap_b218 F218_slot_b218 F218_count_b218) (lenOf pd1 rfl) at_32 rfl (Nat.le_of_ble_eq_true rfl) (Nat.le_of_ble_eq_true rfl) (Nat.le_of_ble_eq_true rfl) (Nat.le_of_ble_eq_true rfl) rfl (pc' := 35) rfl ?_
        rintro v219 h219 ⟨rfl, K219, I219_gain, I219_choices, I219_activity, I219_heap, I219_slot, I219_count⟩
        have X219_b218 := (Exa.keep A218 K219)
        have P219 := (P218.trans K219 (allS (Or.inr lt_b218) (all0)))
        show Go _ _ _ _ _ _ _ _ _ _ _ h219 1 6 (mkF m 35 #[.val (.int p0), .val (.int p1), .val (.int p2), .val (.int (1 : Int32)), .val (.int (0 : Int32)), .val (.int (3 : Int32)), .val (.int (2 : Int32)), .unset, .unset, .unset] [(.ref b218)]) _
        refine Jvm.OwnWp.astore K at_35 rfl (Ls' := #[.val (.int p0), .val (.int p1), .val (.int p2), .val (.int (1 : Int32)), .val (.int (0 : Int32)), .val (.int (3 : Int32)), .val (.int (2 : Int32)), .val (.ref b218), .unset, .unset]) rfl (pc' := 37) rfl ?_
        refine Jvm.OwnWp.aload K at_37 rfl rfl (pc' := 39) rfl ?_
        refine Jvm.OwnWp.iloadN K at_39 rfl (pc' := 40) rfl ?_
        refine Jvm.OwnWp.iload K at_40 rfl (pc' := 42) rfl ?_
        refine callStatic K (y := (⟨"com/example/sightline/sightline/checker/ByActivityDecayPinLaw", "bumps", "(Lcom/example/sightline/sightline/checker/ByActivity;II)V"⟩ : MethodName)) (argsL := [(.ref b218), (.int (1 : Int32)), (.int (3 : Int32))]) (S := []) (wd14 hw) (wd15 hw) (wd16 hw) (wd17 hw) (by decide) (c_b13 l Z a0 hw [] b218 h219 n0 (Nat.le_trans Z0 P219.1) X219_b218 I219_activity I219_heap I219_slot I219_count I219_gain I219_choices ge_b218) (lenOf pd4 rfl) at_42 rfl (Nat.le_of_ble_eq_true rfl) (Nat.le_of_ble_eq_true rfl) (Nat.le_of_ble_eq_true rfl) (Nat.le_of_ble_eq_true rfl) rfl (pc' := 45) rfl ?_
        rintro v220 h220 ⟨rfl, K220, ka, ha, sa, Hl, Sl, zk, zh, zs, ne_ha_ka, ne_sa_ka, ne_sa_ha, wf, rt, Q220_E, Q220_F_act, Q220_F_heap, Q220_F_slot, Q220_F_count, Q220_F_gain, Q220_F_choices, Q220_VA, Q220_VH, Q220_VS⟩
        have ne_b218_ka : b218 ≠ ka := Nat.ne_of_lt (Nat.lt_of_lt_of_le (Exa.lt X219_b218) zk)
        have lt_ka : h0.size ≤ ka := Nat.le_trans P219.1 zk
        have ge_ka : n0 ≤ ka := Nat.le_trans Z0 lt_ka
        have ne_b218_ha : b218 ≠ ha := Nat.ne_of_lt (Nat.lt_of_lt_of_le (Exa.lt X219_b218) zh)
        have lt_ha : h0.size ≤ ha := Nat.le_trans P219.1 zh
        have ge_ha : n0 ≤ ha := Nat.le_trans Z0 lt_ha
        have ne_b218_sa : b218 ≠ sa := Nat.ne_of_lt (Nat.lt_of_lt_of_le (Exa.lt X219_b218) zs)
        have lt_sa : h0.size ≤ sa := Nat.le_trans P219.1 zs
        have ge_sa : n0 ≤ sa := Nat.le_trans Z0 lt_sa
        have X220_b218 := (Exa.keep X219_b218 K220)
        have P220 := (P219.trans K220 (allS (Or.inr lt_b218) (all0)))
        show Go _ _ _ _ _ _ _ _ _ _ _ h220 4 21 (mkF m 45 #[.val (.int p0), .val (.int p1), .val (.int p2), .val (.int (1 : Int32)), .val (.int (0 : Int32)), .val (.int (3 : Int32)), .val (.int (2 : Int32)), .val (.ref b218), .unset, .unset] []) _
        refine Jvm.OwnWp.aload K at_45 rfl rfl (pc' := 47) rfl ?_
        refine Jvm.OwnWp.iload K at_47 rfl (pc' := 49) rfl ?_
        refine callStatic K (y := (⟨"com/example/sightline/sightline/checker/ByActivityDecayPinLaw", "decays", "(Lcom/example/sightline/sightline/checker/ByActivity;I)V"⟩ : MethodName)) (argsL := [(.ref b218), (.int (2 : Int32))]) (S := []) (wd51 hw) (wd52 hw) (wd16 hw) (wd53 hw) (by decide) (c_dec2 l Z a0 hw [] b218 ka ha sa h220 n0 (Nat.le_trans Z0 P220.1) Q220_E Q220_F_act Q220_F_heap Q220_F_slot Q220_F_count Q220_F_gain Q220_F_choices ge_b218) (lenOf pd5 rfl) at_49 rfl (Nat.le_of_ble_eq_true rfl) (Nat.le_of_ble_eq_true rfl) (Nat.le_of_ble_eq_true rfl) (Nat.le_of_ble_eq_true rfl) rfl (pc' := 52) rfl ?_
        rintro v221 h221 ⟨rfl, K221, Q221_F_act, Q221_F_heap, Q221_F_slot, Q221_F_count, Q221_F_gain, Q221_F_choices⟩
        have X221_b218 := (Exa.keep Q220_E K221)
        have V221_ka := (Q220_VA.keep K221 (ninS (Ne.symm ne_b218_ka) (nin0)))
        have V221_ha := (Q220_VH.keep K221 (ninS (Ne.symm ne_b218_ha) (nin0)))
        have V221_sa := (Q220_VS.keep K221 (ninS (Ne.symm ne_b218_sa) (nin0)))
        have P221 := (P220.trans K221 (allS (Or.inr lt_b218) (all0)))
        show Go _ _ _ _ _ _ _ _ _ _ _ h221 4 21 (mkF m 52 #[.val (.int p0), .val (.int p1), .val (.int p2), .val (.int (1 : Int32)), .val (.int (0 : Int32)), .val (.int (3 : Int32)), .val (.int (2 : Int32)), .val (.ref b218), .unset, .unset] []) _
        refine Jvm.OwnWp.aload K at_52 rfl rfl (pc' := 54) rfl ?_
        refine Jvm.OwnWp.iload K at_54 rfl (pc' := 56) rfl ?_
        refine callVirt K (y := (⟨"com/example/sightline/sightline/checker/ByActivity", "bump", "(I)V"⟩ : MethodName)) (b := b218) (argsL := [(.int (0 : Int32))]) (S := []) (wd18 hw) (wd19 hw) (wd21 hw) (wd20 hw) (wd3 hw) (wd22 hw) (by decide) X221_b218 (c_bumpN l Z a0 hw [] b218 ka ha sa 2 1 4611777928623864853 [0, 4613937818241073152] Hl Sl 0 h221 n0 (Nat.le_trans Z0 P221.1) rfl wf.1 wf.2.1 (by decide) (by decide) wf.2.2.2.1 (by decide) (by decide) (Jvm.Free.Fl.val64_no.mpr (by decide +kernel)) (by decide +kernel) (abs1 wf rt (by decide) (by decide)) X221_b218 Q221_F_act Q221_F_heap Q221_F_slot Q221_F_count Q221_F_gain Q221_F_choices V221_ka V221_ha V221_sa (Ne.symm ne_b218_ka) (Ne.symm ne_b218_ha) (Ne.symm ne_b218_sa) ne_ha_ka ne_sa_ka ne_sa_ha ge_b218 ge_ka ge_ha ge_sa) (lenOf pd1 rfl) at_56 rfl (Nat.le_of_ble_eq_true rfl) (Nat.le_of_ble_eq_true rfl) (Nat.le_of_ble_eq_true rfl) (Nat.le_of_ble_eq_true rfl) rfl (pc' := 59) rfl ?_
        rintro v222 h222 ⟨rfl, K222, Q222_E, Q222_F_act, Q222_F_heap, Q222_F_slot, Q222_F_count, Q222_F_gain, Q222_F_choices, Q222_VA, Q222_VH, Q222_VS⟩
        have X222_b218 := (Exa.keep X221_b218 K222)
        have P222 := (P221.trans K222 (allS (Or.inr lt_b218) (allS (Or.inr lt_ka) (allS (Or.inr lt_ha) (allS (Or.inr lt_sa) (all0))))))
        show Go _ _ _ _ _ _ _ _ _ _ _ h222 4 21 (mkF m 59 #[.val (.int p0), .val (.int p1), .val (.int p2), .val (.int (1 : Int32)), .val (.int (0 : Int32)), .val (.int (3 : Int32)), .val (.int (2 : Int32)), .val (.ref b218), .unset, .unset] []) _
        rw [show ([0, 4613937818241073152].set 0 (FP.dadd ([0, 4613937818241073152].getD 0 0) 4611777928623864853)) = [4611777928623864853, 4613937818241073152] from (by decide +kernel)] at Q222_VA Q222_VH Q222_VS
        have hA2 : Nums [4611777928623864853, 4613937818241073152] := nums2 (by unfold Jvm.OwnHeap.Num; decide +kernel) (by unfold Jvm.OwnHeap.Num; decide +kernel)
        have wf2 := (push_spec (by decide) hA2 wf ord1 (by decide) (by decide : 0 < 2) (abs1 wf rt (by decide) (by decide))).1
        have rt2 := push_root (A := [4611777928623864853, 4613937818241073152]) (c := 0) (S := Sl) wf.1 rt
        rw [if_neg (by decide +kernel)] at rt2
        generalize pushB [4611777928623864853, 4613937818241073152] 0 Hl Sl 1 = U222 at *
        have Q222_F_count : Fld Z h222 b218 "com/example/sightline/sightline/checker/ByActivity" "count" "I" (.int (Int32.ofNat 2)) := Q222_F_count
        refine Jvm.OwnWp.iload K at_59 rfl (pc' := 61) rfl ?_
        refine Jvm.OwnWp.iconst K (1 : Int32) at_61 (by decide) (pc' := 62) rfl ?_
        refine icY K at_62 (by decide) (pc' := 71) (by decide) (by decide) ?_
        refine Jvm.OwnWp.iload K at_71 rfl (pc' := 73) rfl ?_
        refine Jvm.OwnWp.iconst K (2 : Int32) at_73 (by decide) (pc' := 74) rfl ?_
        refine icY K at_74 (by decide) (pc' := 83) (by decide) (by decide) ?_
        refine Jvm.OwnWp.iload K at_83 rfl (pc' := 85) rfl ?_
        refine Jvm.OwnWp.iconst K (3 : Int32) at_85 (by decide) (pc' := 86) rfl ?_
        refine icN K at_86 (by decide) (pc' := 89) rfl ?_
        refine Jvm.OwnWp.iload K at_89 rfl (pc' := 91) rfl ?_
        refine Jvm.OwnWp.iconst K (4 : Int32) at_91 (by decide) (pc' := 92) rfl ?_
        refine icY K at_92 (by decide) (pc' := 99) (by decide) (by decide) ?_
        refine Jvm.OwnWp.iconst K (0 : Int32) at_99 (by decide) (pc' := 100) rfl ?_
        refine Jvm.OwnWp.istore K at_100 (Ls' := #[.val (.int p0), .val (.int p1), .val (.int p2), .val (.int (1 : Int32)), .val (.int (0 : Int32)), .val (.int (3 : Int32)), .val (.int (2 : Int32)), .val (.ref b218), .val (.int (0 : Int32)), .unset]) rfl (pc' := 102) rfl ?_
        refine Jvm.OwnWp.iload K at_102 rfl (pc' := 104) rfl ?_
        refine ifY K at_104 (by decide) (pc' := 112) (by decide) (by decide) ?_
        refine Jvm.OwnWp.iloadN K at_112 rfl (pc' := 113) rfl ?_
        refine Jvm.OwnWp.istore K at_113 (Ls' := #[.val (.int p0), .val (.int p1), .val (.int p2), .val (.int (1 : Int32)), .val (.int (0 : Int32)), .val (.int (3 : Int32)), .val (.int (2 : Int32)), .val (.ref b218), .val (.int (0 : Int32)), .val (.int (1 : Int32))]) rfl (pc' := 115) rfl ?_
        refine Jvm.OwnWp.aload K at_115 rfl rfl (pc' := 117) rfl ?_
        refine callVirt K (y := (⟨"com/example/sightline/sightline/checker/ByActivity", "pop", "()I"⟩ : MethodName)) (b := b218) (argsL := []) (S := []) (wd60 hw) (wd61 hw) (wd63 hw) (wd62 hw) (wd3 hw) (wd64 hw) (by decide) Q222_E (c_pop l Z a0 hw [] b218 ka ha sa 2 2 4611777928623864853 [4611777928623864853, 4613937818241073152] U222.1 U222.2 h222 n0 (Nat.le_trans Z0 P222.1) rfl wf2.1 wf2.2.1 (by decide) (by decide) wf2.2.2.2.1 (by decide) (by decide) Q222_E Q222_F_act Q222_F_heap Q222_F_slot Q222_F_count Q222_F_gain Q222_F_choices Q222_VA Q222_VH Q222_VS (Ne.symm ne_b218_ka) (Ne.symm ne_b218_ha) (Ne.symm ne_b218_sa) ne_ha_ka ne_sa_ka ne_sa_ha ge_b218 ge_ka ge_ha ge_sa) (lenOf pd6 rfl) at_117 rfl (Nat.le_of_ble_eq_true rfl) (Nat.le_of_ble_eq_true rfl) (Nat.le_of_ble_eq_true rfl) (Nat.le_of_ble_eq_true rfl) rfl (pc' := 120) rfl ?_
        rintro v223 h223 ⟨rfl, K223, Q223_E, Q223_F_act, Q223_F_heap, Q223_F_slot, Q223_F_count, Q223_F_gain, Q223_F_choices, Q223_VA, Q223_VH, Q223_VS⟩
        have X223_b218 := (Exa.keep Q222_E K223)
        have V223_ka := (Q222_VA.keep K223 (ninS (Ne.symm ne_b218_ka) (ninS (Ne.symm ne_ha_ka) (ninS (Ne.symm ne_sa_ka) (nin0)))))
        have P223 := (P222.trans K223 (allS (Or.inr lt_b218) (allS (Or.inr lt_ha) (allS (Or.inr lt_sa) (all0)))))
        show Go _ _ _ _ _ _ _ _ _ _ _ h223 4 21 (mkF m 120 #[.val (.int p0), .val (.int p1), .val (.int p2), .val (.int (1 : Int32)), .val (.int (0 : Int32)), .val (.int (3 : Int32)), .val (.int (2 : Int32)), .val (.ref b218), .val (.int (0 : Int32)), .val (.int (1 : Int32))] [(.int (Int32.ofNat (U222.1.getD 0 0)))]) _
        rw [rt2, show Int32.ofNat 1 = 1 from rfl]
        refine Jvm.OwnWp.iload K at_120 rfl (pc' := 122) rfl ?_
        refine icN K at_122 (by decide) (pc' := 125) rfl ?_
        refine Jvm.OwnWp.iconst K (1 : Int32) at_125 (by decide) (pc' := 126) rfl ?_
        refine goto' K at_126 (pc' := 130) (by decide) (by decide) ?_
        refine retB K (t := .boolean) rfl (by simp) at_130 (Nat.le_of_ble_eq_true rfl) (Nat.le_of_ble_eq_true rfl) ?_
        rfl
      · refine Jvm.OwnWp.iloadN K at_0 rfl (pc' := 1) rfl ?_
        refine Jvm.OwnWp.iconst K (1 : Int32) at_1 (by decide) (pc' := 2) rfl ?_
        refine Jvm.OwnWp.iand K at_2 (pc' := 3) rfl ?_
        rw [qa]
        refine Jvm.OwnWp.istoreN K at_3 (Ls' := #[.val (.int p0), .val (.int p1), .val (.int p2), .val (.int (1 : Int32)), .unset, .unset, .unset, .unset, .unset, .unset]) rfl (pc' := 4) rfl ?_
        refine Jvm.OwnWp.iconst K (1 : Int32) at_4 (by decide) (pc' := 5) rfl ?_
        refine Jvm.OwnWp.iloadN K at_5 rfl (pc' := 6) rfl ?_
        refine Jvm.OwnWp.isub K at_6 (pc' := 7) rfl ?_
        rw [show (1 : Int32) - 1 = 0 by decide]
        refine Jvm.OwnWp.istore K at_7 (Ls' := #[.val (.int p0), .val (.int p1), .val (.int p2), .val (.int (1 : Int32)), .val (.int (0 : Int32)), .unset, .unset, .unset, .unset, .unset]) rfl (pc' := 9) rfl ?_
        refine Jvm.OwnWp.iconst K (1 : Int32) at_9 (by decide) (pc' := 10) rfl ?_
        refine Jvm.OwnWp.iloadN K at_10 rfl (pc' := 11) rfl ?_
        refine Jvm.OwnWp.ldcI K (wd0 hw) at_11 (pc' := 13) rfl ?_
        refine Jvm.OwnWp.iand K at_13 (pc' := 14) rfl ?_
        refine Jvm.OwnWp.iconst K (3 : Int32) at_14 (by decide) (pc' := 15) rfl ?_
        refine Jvm.OwnWp.irem K at_15 (by decide) (pc' := 16) rfl ?_
        rw [qm]
        refine Jvm.OwnWp.iadd K at_16 (pc' := 17) rfl ?_
        rw [show (1 : Int32) + 2 = 3 by decide]
        refine Jvm.OwnWp.istore K at_17 (Ls' := #[.val (.int p0), .val (.int p1), .val (.int p2), .val (.int (1 : Int32)), .val (.int (0 : Int32)), .val (.int (3 : Int32)), .unset, .unset, .unset, .unset]) rfl (pc' := 19) rfl ?_
        refine Jvm.OwnWp.iloadN K at_19 rfl (pc' := 20) rfl ?_
        refine Jvm.OwnWp.ldcI K (wd0 hw) at_20 (pc' := 22) rfl ?_
        refine Jvm.OwnWp.iand K at_22 (pc' := 23) rfl ?_
        refine Jvm.OwnWp.iconst K (5 : Int32) at_23 (by decide) (pc' := 24) rfl ?_
        refine Jvm.OwnWp.irem K at_24 (by decide) (pc' := 25) rfl ?_
        rw [qk]
        refine Jvm.OwnWp.istore K at_25 (Ls' := #[.val (.int p0), .val (.int p1), .val (.int p2), .val (.int (1 : Int32)), .val (.int (0 : Int32)), .val (.int (3 : Int32)), .val (.int (3 : Int32)), .unset, .unset, .unset]) rfl (pc' := 27) rfl ?_
        refine newObj K (wd1 hw) (wd2 hw) (wd3 hw) at_27 (by decide) (by decide) (pc' := 30) rfl ?_
        intro h224 b224 g224 E224 A224 D224
        have lt_b224 : h0.size ≤ b224 := Nat.le_trans P0.1 (Nat.le_of_eq g224.symm)
        have ge_b224 : n0 ≤ b224 := Nat.le_trans Z0 lt_b224
        have P224 := (P0.ext E224)
        have F224_gain_b224 : Fld Z h224 b224 "com/example/sightline/sightline/checker/ByActivity" "gain" "D" (.double (0 : UInt64)) := D224 (Or.inl (wd11 hw)) (ty := .double) (by decide)
        have F224_choices_b224 : Fld Z h224 b224 "com/example/sightline/sightline/checker/ByActivity" "choices" "I" (.int (0 : Int32)) := D224 (Or.inr (wd13 hw)) (ty := .int) (by decide)
        have F224_activity_b224 : Fld Z h224 b224 "com/example/sightline/sightline/checker/ByActivity" "activity" "[D" .null := D224 (Or.inl (wd24 hw)) (ty := (.array .double)) (by decide)
        have F224_heap_b224 : Fld Z h224 b224 "com/example/sightline/sightline/checker/ByActivity" "heap" "[I" .null := D224 (Or.inl (wd28 hw)) (ty := (.array .int)) (by decide)
        have F224_slot_b224 : Fld Z h224 b224 "com/example/sightline/sightline/checker/ByActivity" "slot" "[I" .null := D224 (Or.inl (wd30 hw)) (ty := (.array .int)) (by decide)
        have F224_count_b224 : Fld Z h224 b224 "com/example/sightline/sightline/checker/ByActivity" "count" "I" (.int (0 : Int32)) := D224 (Or.inl (wd42 hw)) (ty := .int) (by decide)
        refine Jvm.OwnWp.dup K at_30 rfl (pc' := 31) rfl ?_
        refine Jvm.OwnWp.iconst K (2 : Int32) at_31 (by decide) (pc' := 32) rfl ?_
        refine callInit K (y := (⟨"com/example/sightline/sightline/checker/ByActivity", "<init>", "(I)V"⟩ : MethodName)) (b := b224) (argsL := [(.int (2 : Int32))]) (S := [(.ref b224)]) rfl (wd4 hw) (wd5 hw) (wd3 hw) (wd6 hw) rfl (by decide) (c_init l Z a0 hw [] b224 2 h224 n0 (Nat.le_trans Z0 P224.1) A224 ge_b224 F224_gain_b224 F224_choices_b224 F224_activity_b224 F224_heap_b224 F224_slot_b224 F224_count_b224) (lenOf pd1 rfl) at_32 rfl (Nat.le_of_ble_eq_true rfl) (Nat.le_of_ble_eq_true rfl) (Nat.le_of_ble_eq_true rfl) (Nat.le_of_ble_eq_true rfl) rfl (pc' := 35) rfl ?_
        rintro v225 h225 ⟨rfl, K225, I225_gain, I225_choices, I225_activity, I225_heap, I225_slot, I225_count⟩
        have X225_b224 := (Exa.keep A224 K225)
        have P225 := (P224.trans K225 (allS (Or.inr lt_b224) (all0)))
        show Go _ _ _ _ _ _ _ _ _ _ _ h225 1 6 (mkF m 35 #[.val (.int p0), .val (.int p1), .val (.int p2), .val (.int (1 : Int32)), .val (.int (0 : Int32)), .val (.int (3 : Int32)), .val (.int (3 : Int32)), .unset, .unset, .unset] [(.ref b224)]) _
        refine Jvm.OwnWp.astore K at_35 rfl (Ls' := #[.val (.int p0), .val (.int p1), .val (.int p2), .val (.int (1 : Int32)), .val (.int (0 : Int32)), .val (.int (3 : Int32)), .val (.int (3 : Int32)), .val (.ref b224), .unset, .unset]) rfl (pc' := 37) rfl ?_
        refine Jvm.OwnWp.aload K at_37 rfl rfl (pc' := 39) rfl ?_
        refine Jvm.OwnWp.iloadN K at_39 rfl (pc' := 40) rfl ?_
        refine Jvm.OwnWp.iload K at_40 rfl (pc' := 42) rfl ?_
        refine callStatic K (y := (⟨"com/example/sightline/sightline/checker/ByActivityDecayPinLaw", "bumps", "(Lcom/example/sightline/sightline/checker/ByActivity;II)V"⟩ : MethodName)) (argsL := [(.ref b224), (.int (1 : Int32)), (.int (3 : Int32))]) (S := []) (wd14 hw) (wd15 hw) (wd16 hw) (wd17 hw) (by decide) (c_b13 l Z a0 hw [] b224 h225 n0 (Nat.le_trans Z0 P225.1) X225_b224 I225_activity I225_heap I225_slot I225_count I225_gain I225_choices ge_b224) (lenOf pd4 rfl) at_42 rfl (Nat.le_of_ble_eq_true rfl) (Nat.le_of_ble_eq_true rfl) (Nat.le_of_ble_eq_true rfl) (Nat.le_of_ble_eq_true rfl) rfl (pc' := 45) rfl ?_
        rintro v226 h226 ⟨rfl, K226, ka, ha, sa, Hl, Sl, zk, zh, zs, ne_ha_ka, ne_sa_ka, ne_sa_ha, wf, rt, Q226_E, Q226_F_act, Q226_F_heap, Q226_F_slot, Q226_F_count, Q226_F_gain, Q226_F_choices, Q226_VA, Q226_VH, Q226_VS⟩
        have ne_b224_ka : b224 ≠ ka := Nat.ne_of_lt (Nat.lt_of_lt_of_le (Exa.lt X225_b224) zk)
        have lt_ka : h0.size ≤ ka := Nat.le_trans P225.1 zk
        have ge_ka : n0 ≤ ka := Nat.le_trans Z0 lt_ka
        have ne_b224_ha : b224 ≠ ha := Nat.ne_of_lt (Nat.lt_of_lt_of_le (Exa.lt X225_b224) zh)
        have lt_ha : h0.size ≤ ha := Nat.le_trans P225.1 zh
        have ge_ha : n0 ≤ ha := Nat.le_trans Z0 lt_ha
        have ne_b224_sa : b224 ≠ sa := Nat.ne_of_lt (Nat.lt_of_lt_of_le (Exa.lt X225_b224) zs)
        have lt_sa : h0.size ≤ sa := Nat.le_trans P225.1 zs
        have ge_sa : n0 ≤ sa := Nat.le_trans Z0 lt_sa
        have X226_b224 := (Exa.keep X225_b224 K226)
        have P226 := (P225.trans K226 (allS (Or.inr lt_b224) (all0)))
        show Go _ _ _ _ _ _ _ _ _ _ _ h226 4 21 (mkF m 45 #[.val (.int p0), .val (.int p1), .val (.int p2), .val (.int (1 : Int32)), .val (.int (0 : Int32)), .val (.int (3 : Int32)), .val (.int (3 : Int32)), .val (.ref b224), .unset, .unset] []) _
        refine Jvm.OwnWp.aload K at_45 rfl rfl (pc' := 47) rfl ?_
        refine Jvm.OwnWp.iload K at_47 rfl (pc' := 49) rfl ?_
        refine callStatic K (y := (⟨"com/example/sightline/sightline/checker/ByActivityDecayPinLaw", "decays", "(Lcom/example/sightline/sightline/checker/ByActivity;I)V"⟩ : MethodName)) (argsL := [(.ref b224), (.int (3 : Int32))]) (S := []) (wd51 hw) (wd52 hw) (wd16 hw) (wd53 hw) (by decide) (c_dec3 l Z a0 hw [] b224 ka ha sa h226 n0 (Nat.le_trans Z0 P226.1) Q226_E Q226_F_act Q226_F_heap Q226_F_slot Q226_F_count Q226_F_gain Q226_F_choices ge_b224) (lenOf pd5 rfl) at_49 rfl (Nat.le_of_ble_eq_true rfl) (Nat.le_of_ble_eq_true rfl) (Nat.le_of_ble_eq_true rfl) (Nat.le_of_ble_eq_true rfl) rfl (pc' := 52) rfl ?_
        rintro v227 h227 ⟨rfl, K227, Q227_F_act, Q227_F_heap, Q227_F_slot, Q227_F_count, Q227_F_gain, Q227_F_choices⟩
        have X227_b224 := (Exa.keep Q226_E K227)
        have V227_ka := (Q226_VA.keep K227 (ninS (Ne.symm ne_b224_ka) (nin0)))
        have V227_ha := (Q226_VH.keep K227 (ninS (Ne.symm ne_b224_ha) (nin0)))
        have V227_sa := (Q226_VS.keep K227 (ninS (Ne.symm ne_b224_sa) (nin0)))
        have P227 := (P226.trans K227 (allS (Or.inr lt_b224) (all0)))
        show Go _ _ _ _ _ _ _ _ _ _ _ h227 4 21 (mkF m 52 #[.val (.int p0), .val (.int p1), .val (.int p2), .val (.int (1 : Int32)), .val (.int (0 : Int32)), .val (.int (3 : Int32)), .val (.int (3 : Int32)), .val (.ref b224), .unset, .unset] []) _
        refine Jvm.OwnWp.aload K at_52 rfl rfl (pc' := 54) rfl ?_
        refine Jvm.OwnWp.iload K at_54 rfl (pc' := 56) rfl ?_
        refine callVirt K (y := (⟨"com/example/sightline/sightline/checker/ByActivity", "bump", "(I)V"⟩ : MethodName)) (b := b224) (argsL := [(.int (0 : Int32))]) (S := []) (wd18 hw) (wd19 hw) (wd21 hw) (wd20 hw) (wd3 hw) (wd22 hw) (by decide) X227_b224 (c_bumpN l Z a0 hw [] b224 ka ha sa 2 1 4613747432834085187 [0, 4613937818241073152] Hl Sl 0 h227 n0 (Nat.le_trans Z0 P227.1) rfl wf.1 wf.2.1 (by decide) (by decide) wf.2.2.2.1 (by decide) (by decide) (Jvm.Free.Fl.val64_no.mpr (by decide +kernel)) (by decide +kernel) (abs1 wf rt (by decide) (by decide)) X227_b224 Q227_F_act Q227_F_heap Q227_F_slot Q227_F_count Q227_F_gain Q227_F_choices V227_ka V227_ha V227_sa (Ne.symm ne_b224_ka) (Ne.symm ne_b224_ha) (Ne.symm ne_b224_sa) ne_ha_ka ne_sa_ka ne_sa_ha ge_b224 ge_ka ge_ha ge_sa) (lenOf pd1 rfl) at_56 rfl (Nat.le_of_ble_eq_true rfl) (Nat.le_of_ble_eq_true rfl) (Nat.le_of_ble_eq_true rfl) (Nat.le_of_ble_eq_true rfl) rfl (pc' := 59) rfl ?_
        rintro v228 h228 ⟨rfl, K228, Q228_E, Q228_F_act, Q228_F_heap, Q228_F_slot, Q228_F_count, Q228_F_gain, Q228_F_choices, Q228_VA, Q228_VH, Q228_VS⟩
        have X228_b224 := (Exa.keep X227_b224 K228)
        have P228 := (P227.trans K228 (allS (Or.inr lt_b224) (allS (Or.inr lt_ka) (allS (Or.inr lt_ha) (allS (Or.inr lt_sa) (all0))))))
        show Go _ _ _ _ _ _ _ _ _ _ _ h228 4 21 (mkF m 59 #[.val (.int p0), .val (.int p1), .val (.int p2), .val (.int (1 : Int32)), .val (.int (0 : Int32)), .val (.int (3 : Int32)), .val (.int (3 : Int32)), .val (.ref b224), .unset, .unset] []) _
        rw [show ([0, 4613937818241073152].set 0 (FP.dadd ([0, 4613937818241073152].getD 0 0) 4613747432834085187)) = [4613747432834085187, 4613937818241073152] from (by decide +kernel)] at Q228_VA Q228_VH Q228_VS
        have hA2 : Nums [4613747432834085187, 4613937818241073152] := nums2 (by unfold Jvm.OwnHeap.Num; decide +kernel) (by unfold Jvm.OwnHeap.Num; decide +kernel)
        have wf2 := (push_spec (by decide) hA2 wf ord1 (by decide) (by decide : 0 < 2) (abs1 wf rt (by decide) (by decide))).1
        have rt2 := push_root (A := [4613747432834085187, 4613937818241073152]) (c := 0) (S := Sl) wf.1 rt
        rw [if_neg (by decide +kernel)] at rt2
        generalize pushB [4613747432834085187, 4613937818241073152] 0 Hl Sl 1 = U228 at *
        have Q228_F_count : Fld Z h228 b224 "com/example/sightline/sightline/checker/ByActivity" "count" "I" (.int (Int32.ofNat 2)) := Q228_F_count
        refine Jvm.OwnWp.iload K at_59 rfl (pc' := 61) rfl ?_
        refine Jvm.OwnWp.iconst K (1 : Int32) at_61 (by decide) (pc' := 62) rfl ?_
        refine icY K at_62 (by decide) (pc' := 71) (by decide) (by decide) ?_
        refine Jvm.OwnWp.iload K at_71 rfl (pc' := 73) rfl ?_
        refine Jvm.OwnWp.iconst K (2 : Int32) at_73 (by decide) (pc' := 74) rfl ?_
        refine icY K at_74 (by decide) (pc' := 83) (by decide) (by decide) ?_
        refine Jvm.OwnWp.iload K at_83 rfl (pc' := 85) rfl ?_
        refine Jvm.OwnWp.iconst K (3 : Int32) at_85 (by decide) (pc' := 86) rfl ?_
        refine icN K at_86 (by decide) (pc' := 89) rfl ?_
        refine Jvm.OwnWp.iload K at_89 rfl (pc' := 91) rfl ?_
        refine Jvm.OwnWp.iconst K (4 : Int32) at_91 (by decide) (pc' := 92) rfl ?_
        refine icY K at_92 (by decide) (pc' := 99) (by decide) (by decide) ?_
        refine Jvm.OwnWp.iconst K (0 : Int32) at_99 (by decide) (pc' := 100) rfl ?_
        refine Jvm.OwnWp.istore K at_100 (Ls' := #[.val (.int p0), .val (.int p1), .val (.int p2), .val (.int (1 : Int32)), .val (.int (0 : Int32)), .val (.int (3 : Int32)), .val (.int (3 : Int32)), .val (.ref b224), .val (.int (0 : Int32)), .unset]) rfl (pc' := 102) rfl ?_
        refine Jvm.OwnWp.iload K at_102 rfl (pc' := 104) rfl ?_
        refine ifY K at_104 (by decide) (pc' := 112) (by decide) (by decide) ?_
        refine Jvm.OwnWp.iloadN K at_112 rfl (pc' := 113) rfl ?_
        refine Jvm.OwnWp.istore K at_113 (Ls' := #[.val (.int p0), .val (.int p1), .val (.int p2), .val (.int (1 : Int32)), .val (.int (0 : Int32)), .val (.int (3 : Int32)), .val (.int (3 : Int32)), .val (.ref b224), .val (.int (0 : Int32)), .val (.int (1 : Int32))]) rfl (pc' := 115) rfl ?_
        refine Jvm.OwnWp.aload K at_115 rfl rfl (pc' := 117) rfl ?_
        refine callVirt K (y := (⟨"com/example/sightline/sightline/checker/ByActivity", "pop", "()I"⟩ : MethodName)) (b := b224) (argsL := []) (S := []) (wd60 hw) (wd61 hw) (wd63 hw) (wd62 hw) (wd3 hw) (wd64 hw) (by decide) Q228_E (c_pop l Z a0 hw [] b224 ka ha sa 2 2 4613747432834085187 [4613747432834085187, 4613937818241073152] U228.1 U228.2 h228 n0 (Nat.le_trans Z0 P228.1) rfl wf2.1 wf2.2.1 (by decide) (by decide) wf2.2.2.2.1 (by decide) (by decide) Q228_E Q228_F_act Q228_F_heap Q228_F_slot Q228_F_count Q228_F_gain Q228_F_choices Q228_VA Q228_VH Q228_VS (Ne.symm ne_b224_ka) (Ne.symm ne_b224_ha) (Ne.symm ne_b224_sa) ne_ha_ka ne_sa_ka ne_sa_ha ge_b224 ge_ka ge_ha ge_sa) (lenOf pd6 rfl) at_117 rfl (Nat.le_of_ble_eq_true rfl) (Nat.le_of_ble_eq_true rfl) (Nat.le_of_ble_eq_true rfl) (Nat.le_of_ble_eq_true rfl) rfl (pc' := 120) rfl ?_
        rintro v229 h229 ⟨rfl, K229, Q229_E, Q229_F_act, Q229_F_heap, Q229_F_slot, Q229_F_count, Q229_F_gain, Q229_F_choices, Q229_VA, Q229_VH, Q229_VS⟩
        have X229_b224 := (Exa.keep Q228_E K229)
        have V229_ka := (Q228_VA.keep K229 (ninS (Ne.symm ne_b224_ka) (ninS (Ne.symm ne_ha_ka) (ninS (Ne.symm ne_sa_ka) (nin0)))))
        have P229 := (P228.trans K229 (allS (Or.inr lt_b224) (allS (Or.inr lt_ha) (allS (Or.inr lt_sa) (all0)))))
        show Go _ _ _ _ _ _ _ _ _ _ _ h229 4 21 (mkF m 120 #[.val (.int p0), .val (.int p1), .val (.int p2), .val (.int (1 : Int32)), .val (.int (0 : Int32)), .val (.int (3 : Int32)), .val (.int (3 : Int32)), .val (.ref b224), .val (.int (0 : Int32)), .val (.int (1 : Int32))] [(.int (Int32.ofNat (U228.1.getD 0 0)))]) _
        rw [rt2, show Int32.ofNat 1 = 1 from rfl]
        refine Jvm.OwnWp.iload K at_120 rfl (pc' := 122) rfl ?_
        refine icN K at_122 (by decide) (pc' := 125) rfl ?_
        refine Jvm.OwnWp.iconst K (1 : Int32) at_125 (by decide) (pc' := 126) rfl ?_
        refine goto' K at_126 (pc' := 130) (by decide) (by decide) ?_
        refine retB K (t := .boolean) rfl (by simp) at_130 (Nat.le_of_ble_eq_true rfl) (Nat.le_of_ble_eq_true rfl) ?_
        rfl
      · refine Jvm.OwnWp.iloadN K at_0 rfl (pc' := 1) rfl ?_
        refine Jvm.OwnWp.iconst K (1 : Int32) at_1 (by decide) (pc' := 2) rfl ?_
        refine Jvm.OwnWp.iand K at_2 (pc' := 3) rfl ?_
        rw [qa]
        refine Jvm.OwnWp.istoreN K at_3 (Ls' := #[.val (.int p0), .val (.int p1), .val (.int p2), .val (.int (1 : Int32)), .unset, .unset, .unset, .unset, .unset, .unset]) rfl (pc' := 4) rfl ?_
        refine Jvm.OwnWp.iconst K (1 : Int32) at_4 (by decide) (pc' := 5) rfl ?_
        refine Jvm.OwnWp.iloadN K at_5 rfl (pc' := 6) rfl ?_
        refine Jvm.OwnWp.isub K at_6 (pc' := 7) rfl ?_
        rw [show (1 : Int32) - 1 = 0 by decide]
        refine Jvm.OwnWp.istore K at_7 (Ls' := #[.val (.int p0), .val (.int p1), .val (.int p2), .val (.int (1 : Int32)), .val (.int (0 : Int32)), .unset, .unset, .unset, .unset, .unset]) rfl (pc' := 9) rfl ?_
        refine Jvm.OwnWp.iconst K (1 : Int32) at_9 (by decide) (pc' := 10) rfl ?_
        refine Jvm.OwnWp.iloadN K at_10 rfl (pc' := 11) rfl ?_
        refine Jvm.OwnWp.ldcI K (wd0 hw) at_11 (pc' := 13) rfl ?_
        refine Jvm.OwnWp.iand K at_13 (pc' := 14) rfl ?_
        refine Jvm.OwnWp.iconst K (3 : Int32) at_14 (by decide) (pc' := 15) rfl ?_
        refine Jvm.OwnWp.irem K at_15 (by decide) (pc' := 16) rfl ?_
        rw [qm]
        refine Jvm.OwnWp.iadd K at_16 (pc' := 17) rfl ?_
        rw [show (1 : Int32) + 2 = 3 by decide]
        refine Jvm.OwnWp.istore K at_17 (Ls' := #[.val (.int p0), .val (.int p1), .val (.int p2), .val (.int (1 : Int32)), .val (.int (0 : Int32)), .val (.int (3 : Int32)), .unset, .unset, .unset, .unset]) rfl (pc' := 19) rfl ?_
        refine Jvm.OwnWp.iloadN K at_19 rfl (pc' := 20) rfl ?_
        refine Jvm.OwnWp.ldcI K (wd0 hw) at_20 (pc' := 22) rfl ?_
        refine Jvm.OwnWp.iand K at_22 (pc' := 23) rfl ?_
        refine Jvm.OwnWp.iconst K (5 : Int32) at_23 (by decide) (pc' := 24) rfl ?_
        refine Jvm.OwnWp.irem K at_24 (by decide) (pc' := 25) rfl ?_
        rw [qk]
        refine Jvm.OwnWp.istore K at_25 (Ls' := #[.val (.int p0), .val (.int p1), .val (.int p2), .val (.int (1 : Int32)), .val (.int (0 : Int32)), .val (.int (3 : Int32)), .val (.int (4 : Int32)), .unset, .unset, .unset]) rfl (pc' := 27) rfl ?_
        refine newObj K (wd1 hw) (wd2 hw) (wd3 hw) at_27 (by decide) (by decide) (pc' := 30) rfl ?_
        intro h230 b230 g230 E230 A230 D230
        have lt_b230 : h0.size ≤ b230 := Nat.le_trans P0.1 (Nat.le_of_eq g230.symm)
        have ge_b230 : n0 ≤ b230 := Nat.le_trans Z0 lt_b230
        have P230 := (P0.ext E230)
        have F230_gain_b230 : Fld Z h230 b230 "com/example/sightline/sightline/checker/ByActivity" "gain" "D" (.double (0 : UInt64)) := D230 (Or.inl (wd11 hw)) (ty := .double) (by decide)
        have F230_choices_b230 : Fld Z h230 b230 "com/example/sightline/sightline/checker/ByActivity" "choices" "I" (.int (0 : Int32)) := D230 (Or.inr (wd13 hw)) (ty := .int) (by decide)
        have F230_activity_b230 : Fld Z h230 b230 "com/example/sightline/sightline/checker/ByActivity" "activity" "[D" .null := D230 (Or.inl (wd24 hw)) (ty := (.array .double)) (by decide)
        have F230_heap_b230 : Fld Z h230 b230 "com/example/sightline/sightline/checker/ByActivity" "heap" "[I" .null := D230 (Or.inl (wd28 hw)) (ty := (.array .int)) (by decide)
        have F230_slot_b230 : Fld Z h230 b230 "com/example/sightline/sightline/checker/ByActivity" "slot" "[I" .null := D230 (Or.inl (wd30 hw)) (ty := (.array .int)) (by decide)
        have F230_count_b230 : Fld Z h230 b230 "com/example/sightline/sightline/checker/ByActivity" "count" "I" (.int (0 : Int32)) := D230 (Or.inl (wd42 hw)) (ty := .int) (by decide)
        refine Jvm.OwnWp.dup K at_30 rfl (pc' := 31) rfl ?_
        refine Jvm.OwnWp.iconst K (2 : Int32) at_31 (by decide) (pc' := 32) rfl ?_
        refine callInit K (y := (⟨"com/example/sightline/sightline/checker/ByActivity", "<init>", "(I)V"⟩ : MethodName)) (b := b230) (argsL := [(.int (2 : Int32))]) (S := [(.ref b230)]) rfl (wd4 hw) (wd5 hw) (wd3 hw) (wd6 hw) rfl (by decide) (c_init l Z a0 hw [] b230 2 h230 n0 (Nat.le_trans Z0 P230.1) A230 ge_b230 F230_gain_b230 F230_choices_b230 F230_activity_b230 F230_heap_b230 F230_slot_b230 F230_count_b230) (lenOf pd1 rfl) at_32 rfl (Nat.le_of_ble_eq_true rfl) (Nat.le_of_ble_eq_true rfl) (Nat.le_of_ble_eq_true rfl) (Nat.le_of_ble_eq_true rfl) rfl (pc' := 35) rfl ?_
        rintro v231 h231 ⟨rfl, K231, I231_gain, I231_choices, I231_activity, I231_heap, I231_slot, I231_count⟩
        have X231_b230 := (Exa.keep A230 K231)
        have P231 := (P230.trans K231 (allS (Or.inr lt_b230) (all0)))
        show Go _ _ _ _ _ _ _ _ _ _ _ h231 1 6 (mkF m 35 #[.val (.int p0), .val (.int p1), .val (.int p2), .val (.int (1 : Int32)), .val (.int (0 : Int32)), .val (.int (3 : Int32)), .val (.int (4 : Int32)), .unset, .unset, .unset] [(.ref b230)]) _
        refine Jvm.OwnWp.astore K at_35 rfl (Ls' := #[.val (.int p0), .val (.int p1), .val (.int p2), .val (.int (1 : Int32)), .val (.int (0 : Int32)), .val (.int (3 : Int32)), .val (.int (4 : Int32)), .val (.ref b230), .unset, .unset]) rfl (pc' := 37) rfl ?_
        refine Jvm.OwnWp.aload K at_37 rfl rfl (pc' := 39) rfl ?_
        refine Jvm.OwnWp.iloadN K at_39 rfl (pc' := 40) rfl ?_
        refine Jvm.OwnWp.iload K at_40 rfl (pc' := 42) rfl ?_
        refine callStatic K (y := (⟨"com/example/sightline/sightline/checker/ByActivityDecayPinLaw", "bumps", "(Lcom/example/sightline/sightline/checker/ByActivity;II)V"⟩ : MethodName)) (argsL := [(.ref b230), (.int (1 : Int32)), (.int (3 : Int32))]) (S := []) (wd14 hw) (wd15 hw) (wd16 hw) (wd17 hw) (by decide) (c_b13 l Z a0 hw [] b230 h231 n0 (Nat.le_trans Z0 P231.1) X231_b230 I231_activity I231_heap I231_slot I231_count I231_gain I231_choices ge_b230) (lenOf pd4 rfl) at_42 rfl (Nat.le_of_ble_eq_true rfl) (Nat.le_of_ble_eq_true rfl) (Nat.le_of_ble_eq_true rfl) (Nat.le_of_ble_eq_true rfl) rfl (pc' := 45) rfl ?_
        rintro v232 h232 ⟨rfl, K232, ka, ha, sa, Hl, Sl, zk, zh, zs, ne_ha_ka, ne_sa_ka, ne_sa_ha, wf, rt, Q232_E, Q232_F_act, Q232_F_heap, Q232_F_slot, Q232_F_count, Q232_F_gain, Q232_F_choices, Q232_VA, Q232_VH, Q232_VS⟩
        have ne_b230_ka : b230 ≠ ka := Nat.ne_of_lt (Nat.lt_of_lt_of_le (Exa.lt X231_b230) zk)
        have lt_ka : h0.size ≤ ka := Nat.le_trans P231.1 zk
        have ge_ka : n0 ≤ ka := Nat.le_trans Z0 lt_ka
        have ne_b230_ha : b230 ≠ ha := Nat.ne_of_lt (Nat.lt_of_lt_of_le (Exa.lt X231_b230) zh)
        have lt_ha : h0.size ≤ ha := Nat.le_trans P231.1 zh
        have ge_ha : n0 ≤ ha := Nat.le_trans Z0 lt_ha
        have ne_b230_sa : b230 ≠ sa := Nat.ne_of_lt (Nat.lt_of_lt_of_le (Exa.lt X231_b230) zs)
        have lt_sa : h0.size ≤ sa := Nat.le_trans P231.1 zs
        have ge_sa : n0 ≤ sa := Nat.le_trans Z0 lt_sa
        have X232_b230 := (Exa.keep X231_b230 K232)
        have P232 := (P231.trans K232 (allS (Or.inr lt_b230) (all0)))
        show Go _ _ _ _ _ _ _ _ _ _ _ h232 4 21 (mkF m 45 #[.val (.int p0), .val (.int p1), .val (.int p2), .val (.int (1 : Int32)), .val (.int (0 : Int32)), .val (.int (3 : Int32)), .val (.int (4 : Int32)), .val (.ref b230), .unset, .unset] []) _
        refine Jvm.OwnWp.aload K at_45 rfl rfl (pc' := 47) rfl ?_
        refine Jvm.OwnWp.iload K at_47 rfl (pc' := 49) rfl ?_
        refine callStatic K (y := (⟨"com/example/sightline/sightline/checker/ByActivityDecayPinLaw", "decays", "(Lcom/example/sightline/sightline/checker/ByActivity;I)V"⟩ : MethodName)) (argsL := [(.ref b230), (.int (4 : Int32))]) (S := []) (wd51 hw) (wd52 hw) (wd16 hw) (wd53 hw) (by decide) (c_dec4 l Z a0 hw [] b230 ka ha sa h232 n0 (Nat.le_trans Z0 P232.1) Q232_E Q232_F_act Q232_F_heap Q232_F_slot Q232_F_count Q232_F_gain Q232_F_choices ge_b230) (lenOf pd5 rfl) at_49 rfl (Nat.le_of_ble_eq_true rfl) (Nat.le_of_ble_eq_true rfl) (Nat.le_of_ble_eq_true rfl) (Nat.le_of_ble_eq_true rfl) rfl (pc' := 52) rfl ?_
        rintro v233 h233 ⟨rfl, K233, Q233_F_act, Q233_F_heap, Q233_F_slot, Q233_F_count, Q233_F_gain, Q233_F_choices⟩
        have X233_b230 := (Exa.keep Q232_E K233)
        have V233_ka := (Q232_VA.keep K233 (ninS (Ne.symm ne_b230_ka) (nin0)))
        have V233_ha := (Q232_VH.keep K233 (ninS (Ne.symm ne_b230_ha) (nin0)))
        have V233_sa := (Q232_VS.keep K233 (ninS (Ne.symm ne_b230_sa) (nin0)))
        have P233 := (P232.trans K233 (allS (Or.inr lt_b230) (all0)))
        show Go _ _ _ _ _ _ _ _ _ _ _ h233 4 21 (mkF m 52 #[.val (.int p0), .val (.int p1), .val (.int p2), .val (.int (1 : Int32)), .val (.int (0 : Int32)), .val (.int (3 : Int32)), .val (.int (4 : Int32)), .val (.ref b230), .unset, .unset] []) _
        refine Jvm.OwnWp.aload K at_52 rfl rfl (pc' := 54) rfl ?_
        refine Jvm.OwnWp.iload K at_54 rfl (pc' := 56) rfl ?_
        refine callVirt K (y := (⟨"com/example/sightline/sightline/checker/ByActivity", "bump", "(I)V"⟩ : MethodName)) (b := b230) (argsL := [(.int (0 : Int32))]) (S := []) (wd18 hw) (wd19 hw) (wd21 hw) (wd20 hw) (wd3 hw) (wd22 hw) (by decide) X233_b230 (c_bumpN l Z a0 hw [] b230 ka ha sa 2 1 4616375314166007746 [0, 4613937818241073152] Hl Sl 0 h233 n0 (Nat.le_trans Z0 P233.1) rfl wf.1 wf.2.1 (by decide) (by decide) wf.2.2.2.1 (by decide) (by decide) (Jvm.Free.Fl.val64_no.mpr (by decide +kernel)) (by decide +kernel) (abs1 wf rt (by decide) (by decide)) X233_b230 Q233_F_act Q233_F_heap Q233_F_slot Q233_F_count Q233_F_gain Q233_F_choices V233_ka V233_ha V233_sa (Ne.symm ne_b230_ka) (Ne.symm ne_b230_ha) (Ne.symm ne_b230_sa) ne_ha_ka ne_sa_ka ne_sa_ha ge_b230 ge_ka ge_ha ge_sa) (lenOf pd1 rfl) at_56 rfl (Nat.le_of_ble_eq_true rfl) (Nat.le_of_ble_eq_true rfl) (Nat.le_of_ble_eq_true rfl) (Nat.le_of_ble_eq_true rfl) rfl (pc' := 59) rfl ?_
        rintro v234 h234 ⟨rfl, K234, Q234_E, Q234_F_act, Q234_F_heap, Q234_F_slot, Q234_F_count, Q234_F_gain, Q234_F_choices, Q234_VA, Q234_VH, Q234_VS⟩
        have X234_b230 := (Exa.keep X233_b230 K234)
        have P234 := (P233.trans K234 (allS (Or.inr lt_b230) (allS (Or.inr lt_ka) (allS (Or.inr lt_ha) (allS (Or.inr lt_sa) (all0))))))
        show Go _ _ _ _ _ _ _ _ _ _ _ h234 4 21 (mkF m 59 #[.val (.int p0), .val (.int p1), .val (.int p2), .val (.int (1 : Int32)), .val (.int (0 : Int32)), .val (.int (3 : Int32)), .val (.int (4 : Int32)), .val (.ref b230), .unset, .unset] []) _
        rw [show ([0, 4613937818241073152].set 0 (FP.dadd ([0, 4613937818241073152].getD 0 0) 4616375314166007746)) = [4616375314166007746, 4613937818241073152] from (by decide +kernel)] at Q234_VA Q234_VH Q234_VS
        have hA2 : Nums [4616375314166007746, 4613937818241073152] := nums2 (by unfold Jvm.OwnHeap.Num; decide +kernel) (by unfold Jvm.OwnHeap.Num; decide +kernel)
        have wf2 := (push_spec (by decide) hA2 wf ord1 (by decide) (by decide : 0 < 2) (abs1 wf rt (by decide) (by decide))).1
        have rt2 := push_root (A := [4616375314166007746, 4613937818241073152]) (c := 0) (S := Sl) wf.1 rt
        rw [if_pos (by decide +kernel)] at rt2
        generalize pushB [4616375314166007746, 4613937818241073152] 0 Hl Sl 1 = U234 at *
        have Q234_F_count : Fld Z h234 b230 "com/example/sightline/sightline/checker/ByActivity" "count" "I" (.int (Int32.ofNat 2)) := Q234_F_count
        refine Jvm.OwnWp.iload K at_59 rfl (pc' := 61) rfl ?_
        refine Jvm.OwnWp.iconst K (1 : Int32) at_61 (by decide) (pc' := 62) rfl ?_
        refine icY K at_62 (by decide) (pc' := 71) (by decide) (by decide) ?_
        refine Jvm.OwnWp.iload K at_71 rfl (pc' := 73) rfl ?_
        refine Jvm.OwnWp.iconst K (2 : Int32) at_73 (by decide) (pc' := 74) rfl ?_
        refine icY K at_74 (by decide) (pc' := 83) (by decide) (by decide) ?_
        refine Jvm.OwnWp.iload K at_83 rfl (pc' := 85) rfl ?_
        refine Jvm.OwnWp.iconst K (3 : Int32) at_85 (by decide) (pc' := 86) rfl ?_
        refine icN K at_86 (by decide) (pc' := 89) rfl ?_
        refine Jvm.OwnWp.iload K at_89 rfl (pc' := 91) rfl ?_
        refine Jvm.OwnWp.iconst K (4 : Int32) at_91 (by decide) (pc' := 92) rfl ?_
        refine icN K at_92 (by decide) (pc' := 95) rfl ?_
        refine Jvm.OwnWp.iconst K (1 : Int32) at_95 (by decide) (pc' := 96) rfl ?_
        refine goto' K at_96 (pc' := 100) (by decide) (by decide) ?_
        refine Jvm.OwnWp.istore K at_100 (Ls' := #[.val (.int p0), .val (.int p1), .val (.int p2), .val (.int (1 : Int32)), .val (.int (0 : Int32)), .val (.int (3 : Int32)), .val (.int (4 : Int32)), .val (.ref b230), .val (.int (1 : Int32)), .unset]) rfl (pc' := 102) rfl ?_
        refine Jvm.OwnWp.iload K at_102 rfl (pc' := 104) rfl ?_
        refine ifN K at_104 (by decide) (pc' := 107) rfl ?_
        refine Jvm.OwnWp.iload K at_107 rfl (pc' := 109) rfl ?_
        refine goto' K at_109 (pc' := 113) (by decide) (by decide) ?_
        refine Jvm.OwnWp.istore K at_113 (Ls' := #[.val (.int p0), .val (.int p1), .val (.int p2), .val (.int (1 : Int32)), .val (.int (0 : Int32)), .val (.int (3 : Int32)), .val (.int (4 : Int32)), .val (.ref b230), .val (.int (1 : Int32)), .val (.int (0 : Int32))]) rfl (pc' := 115) rfl ?_
        refine Jvm.OwnWp.aload K at_115 rfl rfl (pc' := 117) rfl ?_
        refine callVirt K (y := (⟨"com/example/sightline/sightline/checker/ByActivity", "pop", "()I"⟩ : MethodName)) (b := b230) (argsL := []) (S := []) (wd60 hw) (wd61 hw) (wd63 hw) (wd62 hw) (wd3 hw) (wd64 hw) (by decide) Q234_E (c_pop l Z a0 hw [] b230 ka ha sa 2 2 4616375314166007746 [4616375314166007746, 4613937818241073152] U234.1 U234.2 h234 n0 (Nat.le_trans Z0 P234.1) rfl wf2.1 wf2.2.1 (by decide) (by decide) wf2.2.2.2.1 (by decide) (by decide) Q234_E Q234_F_act Q234_F_heap Q234_F_slot Q234_F_count Q234_F_gain Q234_F_choices Q234_VA Q234_VH Q234_VS (Ne.symm ne_b230_ka) (Ne.symm ne_b230_ha) (Ne.symm ne_b230_sa) ne_ha_ka ne_sa_ka ne_sa_ha ge_b230 ge_ka ge_ha ge_sa) (lenOf pd6 rfl) at_117 rfl (Nat.le_of_ble_eq_true rfl) (Nat.le_of_ble_eq_true rfl) (Nat.le_of_ble_eq_true rfl) (Nat.le_of_ble_eq_true rfl) rfl (pc' := 120) rfl ?_
        rintro v235 h235 ⟨rfl, K235, Q235_E, Q235_F_act, Q235_F_heap, Q235_F_slot, Q235_F_count, Q235_F_gain, Q235_F_choices, Q235_VA, Q235_VH, Q235_VS⟩
        have X235_b230 := (Exa.keep Q234_E K235)
        have V235_ka := (Q234_VA.keep K235 (ninS (Ne.symm ne_b230_ka) (ninS (Ne.symm ne_ha_ka) (ninS (Ne.symm ne_sa_ka) (nin0)))))
        have P235 := (P234.trans K235 (allS (Or.inr lt_b230) (allS (Or.inr lt_ha) (allS (Or.inr lt_sa) (all0)))))
        show Go _ _ _ _ _ _ _ _ _ _ _ h235 4 21 (mkF m 120 #[.val (.int p0), .val (.int p1), .val (.int p2), .val (.int (1 : Int32)), .val (.int (0 : Int32)), .val (.int (3 : Int32)), .val (.int (4 : Int32)), .val (.ref b230), .val (.int (1 : Int32)), .val (.int (0 : Int32))] [(.int (Int32.ofNat (U234.1.getD 0 0)))]) _
        rw [rt2, show Int32.ofNat 0 = 0 from rfl]
        refine Jvm.OwnWp.iload K at_120 rfl (pc' := 122) rfl ?_
        refine icN K at_122 (by decide) (pc' := 125) rfl ?_
        refine Jvm.OwnWp.iconst K (1 : Int32) at_125 (by decide) (pc' := 126) rfl ?_
        refine goto' K at_126 (pc' := 130) (by decide) (by decide) ?_
        refine retB K (t := .boolean) rfl (by simp) at_130 (Nat.le_of_ble_eq_true rfl) (Nat.le_of_ble_eq_true rfl) ?_
        rfl
set_option maxRecDepth 65536 in
set_option maxHeartbeats 40000000 in
theorem comes_1 {Post : Tables → Env → Array Value → State → Outcome → State → Prop} (hpost : ∀ tb e args s v u, (limb_1_1.after args s (.returned v) u = true ∧ limb_1_2.after args s (.returned v) u = true ∧ True) → FrameEnd s (.returned v) u (Jvm.fieldLocs frame_1_writes args s ++ Jvm.arrayLocs frame_1_arrays args s ++ Jvm.staticLocs frame_1_statics s) 16 128 → Post tb e args s (.returned v) u) :
    ArmFor flags0 classFile x code maxLocals ret World_1 tables_1 room_1 Calls_1 rest_1 Pre_1 Post := by
  intro l hfl _ _ p e ha hc hk s m args below hf hA hF happ hP
  obtain ⟨hcalls, hrest, hpre⟩ := hP
  obtain ⟨-, -, -, hnamed, -, -, -, hat⟩ := (Spec.applies_iff hf).mp happ
  obtain ⟨hg, hn⟩ := and_e (Cond.before_iff.mp (show (Jvm.Cond.and given_1 narrow_1).before args s = true from hpre))
  obtain ⟨q0, r0⟩ := and_e hg
  obtain ⟨q1, r1⟩ := and_e r0
  obtain ⟨q2, r2⟩ := and_e r1
  have q3 := r2
  obtain ⟨w0, w1, w2, rfl⟩ : ∃ w0 w1 w2 : Value, args = #[w0, w1, w2] := by
    have hs : args.size = 3 := by simpa [Cond.value, given_1] using q0
    obtain ⟨L⟩ := args
    match L, hs with
    | [w0, w1, w2], _ => exact ⟨w0, w1, w2, rfl⟩
  have hw := fun d (hd : d ∈ tables_1) => atoms_spec (ws := Jvm.Cond.code x code maxLocals ret :: tables_1) hat d (List.mem_cons_of_mem _ hd)
  have hfit : Fit s := fun {y c} hc i hi => by
    obtain ⟨ha, rfl⟩ := Array.getElem?_eq_some_iff.mp hc
    have q := List.all_eq_true.mp ((Array.all_eq_true_iff_forall_mem.mp hF) _ (Array.getElem_mem ha)) i (List.mem_range.mpr hi)
    simpa [Array.getElem?_eq_getElem hi] using q
  obtain ⟨i0, e0⟩ := is_v q1
  obtain rfl : w0 = (.int i0) := Option.some.inj e0
  obtain ⟨i1, e1⟩ := is_v q2
  obtain rfl : w1 = (.int i1) := Option.some.inj e1
  obtain ⟨i2, e2⟩ := is_v q3
  obtain rfl : w2 = (.int i2) := Option.some.inj e2
  obtain ⟨n, o, h1, h2, h3, _, L, rfl, ⟨rfl, N⟩, hq⟩ := c_law l s _ hw tables_1 i0 i1 i2 s.heap s.heap.size (Nat.le_refl _)  p e ha hc hk s m _ below hf ((Spec.applies_iff_loose hf).mp happ).1 ⟨rfl, State.Warmed39.refl s, rfl⟩ trivial
  refine ⟨n, _, h1, h2, h3, hpost _ _ _ _ _ _ ⟨Cond.after_iff.mpr rfl, Cond.after_iff.mpr (eq_i res_at (Term.int_eval (1)) rfl), trivial⟩ ⟨hq.1, hq.2.1, (hq.2.2.sift fun y hy => Or.inr (N y hy)).mono (by decide) (by decide)⟩⟩
theorem main_1_1 : Claimed_1_1 := comes_1 fun _ _ _ _ _ _ h hF => ⟨h.1, hF⟩
theorem main_1_2 : Claimed_1_2 := comes_1 fun _ _ _ _ _ _ h hF => ⟨h.2.1, hF⟩
end Jvm.Pilot.@@N@@
namespace Jvm.Pilot.@@N@@
open Jvm Jvm.ClassFile Sem Op Lib Jvm.Free Jvm.Stand Jvm.Pilot.@@N@@.Jvm.D
/-! MADE BY PROGRAM (witnessworld.py) out of the Statement's table words and the real class files: 12 classes; the members and pool entries that the words name. The judged class is class 1, her method 3. -/
namespace start1
open Jvm.ClassFile
def u (s : String) : CpInfo := .utf8 (stringToUtf16 s)
/-- a pool by its gaps: so many unusable entries, then the entry; so many at the end -/
def gap : Nat → List CpInfo → List CpInfo
  | 0, r => r
  | n + 1, r => .unusable :: gap n r
def poolList (es : List (Nat × CpInfo)) (last : Nat) : List CpInfo := es.foldr (fun e r => gap e.1 (e.2 :: r)) (gap last [])
def pool (es : List (Nat × CpInfo)) (last : Nat) : Array CpInfo := ⟨poolList es last⟩
def fileOf (pool : Array CpInfo) (this : Nat) (attrs : Array Attribute := #[]) (ms : Array MethodInfo := #[]) (fl : Nat := 33) (sup : Nat := 0) (ifs : Array Nat := #[]) (fds : Array FieldInfo := #[]) : ClassFile where
  minorVersion := 0
  majorVersion := 65
  constantPool := pool
  accessFlags := fl
  thisClass := this
  superClass := sup
  interfaces := ifs
  fields := fds
  methods := ms
  attributes := attrs
def plain (name : String) (sup : Option ClassId) : Class where
  name := name
  kind := .ordinary
  loader := none
  accessFlags := 33
  super := sup
  interfaces := #[]
  cf := none
  fields := #[]
  methods := #[]
  instanceTypes := #[]
  staticTypes := #[]
  resolved := #[]
  callSites := []
  init := .initialized
  statics := none
  mirror := none

def pool0 : Array CpInfo := pool [(5, u "<init>"), (0, u "()V"), (1, .class_ 10), (1, u "java/lang/Object")] 113

def k0c0 : Code := { maxStack := 0, maxLocals := 1, code := object_method_1_code, exceptionTable := #[], attributes := #[] }
def k0m0 : Method := { name := "<init>", desc := "()V", sig := { parameters := [], returnType := none }, accessFlags := 1, code := some k0c0 }
/-- java/lang/Object -/
def k0 : Class := { plain "java/lang/Object" none with
  accessFlags := 33
  interfaces := #[]
  cf := some (fileOf pool0 8 #[] #[{ accessFlags := 1, nameIndex := 5, descriptorIndex := 6, attributes := #[] }] 33 0 #[] #[])
  fields := #[]
  methods := #[k0m0]
  instanceTypes := #[]
  staticTypes := #[]
  resolved := Array.replicate 124 none
  statics := none }

def pool1 : Array CpInfo := pool [(2, .class_ 4), (1, u "java/lang/Object"), (0, u "<init>"), (0, u "()V"), (0, .methodref 8 9), (0, .class_ 10), (0, .nameAndType 11 12), (0, u "com/example/sightline/sightline/checker/ByActivity"), (0, u "bump"), (0, u "(I)V"), (0, .methodref 8 14), (0, .nameAndType 15 6), (0, u "decay"), (0, .integer 2147483647), (0, .methodref 8 18), (0, .nameAndType 5 12), (0, .methodref 20 21), (0, .class_ 22), (0, .nameAndType 23 24), (0, u "com/example/sightline/sightline/checker/ByActivityDecayPinLaw"), (0, u "bumps"), (0, u "(Lcom/example/sightline/sightline/checker/ByActivity;II)V"), (0, .methodref 20 26), (0, .nameAndType 27 28), (0, u "decays"), (0, u "(Lcom/example/sightline/sightline/checker/ByActivity;I)V"), (0, .methodref 8 30), (0, .nameAndType 31 32), (0, u "pop"), (0, u "()I"), (3, u "law"), (0, u "(III)Z")] 2

def k1m0 : Method := { name := "<init>", desc := "()V", sig := { parameters := [], returnType := none }, accessFlags := 1, code := none }
def k1c1 : Code := { maxStack := 2, maxLocals := 3, code := method_2_code, exceptionTable := #[], attributes := #[] }
def k1m1 : Method := { name := "bumps", desc := "(Lcom/example/sightline/sightline/checker/ByActivity;II)V", sig := { parameters := [(.object "com/example/sightline/sightline/checker/ByActivity"), .int, .int], returnType := none }, accessFlags := 10, code := some k1c1 }
def k1c2 : Code := { maxStack := 2, maxLocals := 2, code := method_3_code, exceptionTable := #[], attributes := #[] }
def k1m2 : Method := { name := "decays", desc := "(Lcom/example/sightline/sightline/checker/ByActivity;I)V", sig := { parameters := [(.object "com/example/sightline/sightline/checker/ByActivity"), .int], returnType := none }, accessFlags := 10, code := some k1c2 }
def k1c3 : Code := { maxStack := 3, maxLocals := 10, code := code, exceptionTable := #[], attributes := #[] }
def k1m3 : Method := { name := "law", desc := "(III)Z", sig := { parameters := [.int, .int, .int], returnType := some .boolean }, accessFlags := 9, code := some k1c3 }
/-- com/example/sightline/sightline/checker/ByActivityDecayPinLaw -/
def k1 : Class := { plain "com/example/sightline/sightline/checker/ByActivityDecayPinLaw" (some 0) with
  accessFlags := 49
  interfaces := #[]
  cf := some (fileOf pool1 20 #[] #[{ accessFlags := 1, nameIndex := 5, descriptorIndex := 6, attributes := #[] }, { accessFlags := 10, nameIndex := 23, descriptorIndex := 24, attributes := #[] }, { accessFlags := 10, nameIndex := 27, descriptorIndex := 28, attributes := #[] }, { accessFlags := 9, nameIndex := 36, descriptorIndex := 37, attributes := #[] }] 49 2 #[] #[])
  fields := #[]
  methods := #[k1m0, k1m1, k1m2, k1m3]
  instanceTypes := #[]
  staticTypes := #[]
  resolved := Array.replicate 40 none
  statics := none }

def pool2 : Array CpInfo := pool [(1, .methodref 2 3), (0, .class_ 4), (0, .nameAndType 5 6), (0, u "java/lang/Object"), (0, u "<init>"), (0, u "()V"), (0, .fieldref 8 9), (0, .class_ 10), (0, .nameAndType 11 12), (0, u "com/example/sightline/sightline/checker/ByActivity"), (0, u "gain"), (0, u "D"), (0, .fieldref 8 14), (0, .nameAndType 15 16), (0, u "choices"), (0, u "I"), (0, .fieldref 8 18), (0, .nameAndType 19 20), (0, u "activity"), (0, u "[D"), (0, .fieldref 8 22), (0, .nameAndType 23 24), (0, u "heap"), (0, u "[I"), (0, .fieldref 8 26), (0, .nameAndType 27 24), (0, u "slot"), (0, .methodref 29 30), (0, .class_ 31), (0, .nameAndType 32 33), (0, u "java/util/Arrays"), (0, u "fill"), (0, u "([II)V"), (0, .double 6103021453049119613), (4, .methodref 8 40), (0, .nameAndType 41 42), (0, u "push"), (0, u "(I)V"), (0, .methodref 8 44), (0, .nameAndType 45 42), (0, u "up"), (0, .double 4604480259023595110), (1, .fieldref 8 49), (0, .nameAndType 50 16), (0, u "count"), (0, .methodref 8 52), (0, .nameAndType 53 54), (0, u "place"), (0, u "(II)V"), (0, .methodref 8 56), (0, .nameAndType 57 42), (0, u "down"), (0, u "NONE"), (2, u "ACTIVITY_DECAY"), (0, u "RESCALE_ABOVE"), (2, u "bump"), (1, u "decay"), (2, u "pop"), (0, u "()I")] 2

def k2c0 : Code := { maxStack := 3, maxLocals := 2, code := prog_2_method_1_code, exceptionTable := #[], attributes := #[] }
def k2m0 : Method := { name := "<init>", desc := "(I)V", sig := { parameters := [.int], returnType := none }, accessFlags := 0, code := some k2c0 }
def k2c1 : Code := { maxStack := 6, maxLocals := 2, code := prog_2_method_2_code, exceptionTable := #[], attributes := #[] }
def k2m1 : Method := { name := "bump", desc := "(I)V", sig := { parameters := [.int], returnType := none }, accessFlags := 0, code := some k2c1 }
def k2c2 : Code := { maxStack := 5, maxLocals := 1, code := prog_2_method_3_code, exceptionTable := #[], attributes := #[] }
def k2m2 : Method := { name := "decay", desc := "()V", sig := { parameters := [], returnType := none }, accessFlags := 0, code := some k2c2 }
def k2c3 : Code := { maxStack := 3, maxLocals := 2, code := prog_2_method_5_code, exceptionTable := #[], attributes := #[] }
def k2m3 : Method := { name := "pop", desc := "()I", sig := { parameters := [], returnType := some .int }, accessFlags := 0, code := some k2c3 }
def k2c4 : Code := { maxStack := 6, maxLocals := 2, code := prog_2_method_6_code, exceptionTable := #[], attributes := #[] }
def k2m4 : Method := { name := "push", desc := "(I)V", sig := { parameters := [.int], returnType := none }, accessFlags := 0, code := some k2c4 }
def k2c5 : Code := { maxStack := 4, maxLocals := 3, code := prog_2_method_8_code, exceptionTable := #[], attributes := #[] }
def k2m5 : Method := { name := "up", desc := "(I)V", sig := { parameters := [.int], returnType := none }, accessFlags := 2, code := some k2c5 }
def k2c6 : Code := { maxStack := 5, maxLocals := 4, code := prog_2_method_9_code, exceptionTable := #[], attributes := #[] }
def k2m6 : Method := { name := "down", desc := "(I)V", sig := { parameters := [.int], returnType := none }, accessFlags := 2, code := some k2c6 }
def k2c7 : Code := { maxStack := 3, maxLocals := 3, code := prog_2_method_10_code, exceptionTable := #[], attributes := #[] }
def k2m7 : Method := { name := "place", desc := "(II)V", sig := { parameters := [.int, .int], returnType := none }, accessFlags := 2, code := some k2c7 }
/-- com/example/sightline/sightline/checker/ByActivity -/
def k2 : Class := { plain "com/example/sightline/sightline/checker/ByActivity" (some 0) with
  accessFlags := 48
  interfaces := #[]
  cf := some (fileOf pool2 8 #[] #[{ accessFlags := 0, nameIndex := 5, descriptorIndex := 42, attributes := #[] }, { accessFlags := 0, nameIndex := 65, descriptorIndex := 42, attributes := #[] }, { accessFlags := 0, nameIndex := 67, descriptorIndex := 6, attributes := #[] }, { accessFlags := 0, nameIndex := 70, descriptorIndex := 71, attributes := #[] }, { accessFlags := 0, nameIndex := 41, descriptorIndex := 42, attributes := #[] }, { accessFlags := 2, nameIndex := 45, descriptorIndex := 42, attributes := #[] }, { accessFlags := 2, nameIndex := 57, descriptorIndex := 42, attributes := #[] }, { accessFlags := 2, nameIndex := 53, descriptorIndex := 54, attributes := #[] }] 48 2 #[] #[{ accessFlags := 26, nameIndex := 58, descriptorIndex := 16, attributes := #[] }, { accessFlags := 26, nameIndex := 61, descriptorIndex := 12, attributes := #[] }, { accessFlags := 26, nameIndex := 62, descriptorIndex := 12, attributes := #[] }, { accessFlags := 18, nameIndex := 15, descriptorIndex := 16, attributes := #[] }, { accessFlags := 2, nameIndex := 19, descriptorIndex := 20, attributes := #[] }, { accessFlags := 2, nameIndex := 23, descriptorIndex := 24, attributes := #[] }, { accessFlags := 2, nameIndex := 27, descriptorIndex := 24, attributes := #[] }, { accessFlags := 2, nameIndex := 50, descriptorIndex := 16, attributes := #[] }, { accessFlags := 2, nameIndex := 11, descriptorIndex := 12, attributes := #[] }])
  fields := #[{ name := "NONE", type := .int, accessFlags := 26, slot := 0, constantValue := 0 }, { name := "ACTIVITY_DECAY", type := .double, accessFlags := 26, slot := 1, constantValue := 0 }, { name := "RESCALE_ABOVE", type := .double, accessFlags := 26, slot := 2, constantValue := 0 }, { name := "choices", type := .int, accessFlags := 18, slot := 0, constantValue := 0 }, { name := "activity", type := (.array .double), accessFlags := 2, slot := 1, constantValue := 0 }, { name := "heap", type := (.array .int), accessFlags := 2, slot := 2, constantValue := 0 }, { name := "slot", type := (.array .int), accessFlags := 2, slot := 3, constantValue := 0 }, { name := "count", type := .int, accessFlags := 2, slot := 4, constantValue := 0 }, { name := "gain", type := .double, accessFlags := 2, slot := 5, constantValue := 0 }]
  methods := #[k2m0, k2m1, k2m2, k2m3, k2m4, k2m5, k2m6, k2m7]
  instanceTypes := #[.int, (.array .double), (.array .int), (.array .int), .int, .double]
  staticTypes := #[.int, .double, .double]
  resolved := Array.replicate 74 none
  statics := none }

def pool3 : Array CpInfo := pool [(2, .class_ 4), (1, u "java/lang/Object"), (0, u "<init>"), (0, u "()V"), (7, .class_ 16), (1, u "java/util/Arrays"), (57, .class_ 76), (1, u "java/util/Arrays$NaturalOrder"), (36, .class_ 115), (1, u "java/util/Arrays$LegacyMergeSort"), (1, u "Z"), (257, .class_ 376), (0, u "java/util/Arrays$ArrayList"), (68, u "$assertionsDisabled"), (269, u "MIN_ARRAY_SORT_GRAN"), (0, u "I"), (2, u "INSERTIONSORT_THRESHOLD"), (120, u "fill"), (4, u "([II)V"), (129, .class_ 976), (0, u "java/util/Arrays$ArrayItr")] 52

def k3m0 : Method := { name := "<init>", desc := "()V", sig := { parameters := [], returnType := none }, accessFlags := 2, code := none }
def k3c1 : Code := { maxStack := 3, maxLocals := 4, code := jdk_65_method_103_code, exceptionTable := #[], attributes := #[] }
def k3m1 : Method := { name := "fill", desc := "([II)V", sig := { parameters := [(.array .int), .int], returnType := none }, accessFlags := 9, code := some k3c1 }
/-- java/util/Arrays -/
def k3 : Class := { plain "java/util/Arrays" (some 0) with
  accessFlags := 49
  interfaces := #[]
  cf := some (fileOf pool3 14 #[.nestMembers #[975, 375, 113, 74]] #[{ accessFlags := 2, nameIndex := 5, descriptorIndex := 6, attributes := #[] }, { accessFlags := 9, nameIndex := 840, descriptorIndex := 845, attributes := #[] }] 49 2 #[] #[{ accessFlags := 26, nameIndex := 715, descriptorIndex := 716, attributes := #[] }, { accessFlags := 26, nameIndex := 719, descriptorIndex := 716, attributes := #[] }, { accessFlags := 4120, nameIndex := 445, descriptorIndex := 117, attributes := #[] }])
  fields := #[{ name := "MIN_ARRAY_SORT_GRAN", type := .int, accessFlags := 26, slot := 0, constantValue := 0 }, { name := "INSERTIONSORT_THRESHOLD", type := .int, accessFlags := 26, slot := 1, constantValue := 0 }, { name := "$assertionsDisabled", type := .boolean, accessFlags := 4120, slot := 2, constantValue := 0 }]
  methods := #[k3m0, k3m1]
  instanceTypes := #[]
  staticTypes := #[.int, .int, .boolean]
  resolved := Array.replicate 1029 none
  statics := none }

def pool4 : Array CpInfo := pool [(1, u "java/lang/Cloneable"), (0, .class_ 1), (0, u "java/lang/Object"), (0, .class_ 3)] 3

/-- java/lang/Cloneable -/
def k4 : Class := { plain "java/lang/Cloneable" (some 0) with
  accessFlags := 1537
  interfaces := #[]
  cf := some (fileOf pool4 2 #[] #[] 1537 4 #[] #[])
  fields := #[]
  methods := #[]
  instanceTypes := #[]
  staticTypes := #[]
  resolved := Array.replicate 8 none
  statics := none }

def pool5 : Array CpInfo := pool [(1, u "java/io/Serializable"), (0, .class_ 1), (0, u "java/lang/Object"), (0, .class_ 3)] 3

/-- java/io/Serializable -/
def k5 : Class := { plain "java/io/Serializable" (some 0) with
  accessFlags := 1537
  interfaces := #[]
  cf := some (fileOf pool5 2 #[] #[] 1537 4 #[] #[])
  fields := #[]
  methods := #[]
  instanceTypes := #[]
  staticTypes := #[]
  resolved := Array.replicate 8 none
  statics := none }

/-- the primitive byte -/
def k6 : Class := { plain "byte" none with kind := .primitive 'B', accessFlags := 0x411 }
/-- [B -/
def k7 : Class := { plain "[B" (some 0) with kind := .array 6 .byte, interfaces := #[4, 5], accessFlags := 1041 }

/-- the primitive double -/
def k8 : Class := { plain "double" none with kind := .primitive 'D', accessFlags := 0x411 }
/-- [D -/
def k9 : Class := { plain "[D" (some 0) with kind := .array 8 .double, interfaces := #[4, 5], accessFlags := 1041 }

/-- the primitive int -/
def k10 : Class := { plain "int" none with kind := .primitive 'I', accessFlags := 0x411 }
/-- [I -/
def k11 : Class := { plain "[I" (some 0) with kind := .array 10 .int, interfaces := #[4, 5], accessFlags := 1041 }

def heap : Heap := #[]
def classes : Array Class := #[k0, k1, k2, k3, k4, k5, k6, k7, k8, k9, k10, k11]
def interned : List (Array UInt16 × Addr) := []
def slotsUsed : Nat := 0
def theMethod : MethodId := ⟨1, 3⟩
def args0 : Array Value := #[.int 5, .int 5, .int 5]
def aboutOver (below : List Frame) : State where
  vm := { classes := classes, interned := interned.toArray }
  heap := heap
  slotsUsed := slotsUsed
  threads := #[{ frames := .invoking theMethod args0 :: below }]
def below0 : List Frame := [.native { method := ⟨0, 0⟩, args := #[] }]
def about1 : State := aboutOver below0
def p0 : Program := .bare "" "" ""
def e0 : Env := launch0.env 0 0 0
theorem w_frames : about1.frames = Frame.invoking theMethod args0 :: below0 := rfl
set_option maxRecDepth 65536 in
theorem w_args : argsFit about1.vm theMethod args0 = true := by decide +kernel
set_option maxRecDepth 65536 in
theorem w_heap : heapFits about1 = true := by decide +kernel
set_option maxRecDepth 65536 in
theorem w_runnable : about1.curStatus? = some .runnable := by decide +kernel
set_option maxRecDepth 65536 in
theorem w_alone : about1.alone = true := by decide +kernel
set_option maxRecDepth 65536 in
theorem w_named : about1.methodNamed? x = some theMethod := by decide +kernel
set_option maxRecDepth 65536 in
theorem w_hears : about1.hears theMethod below0 = true := by decide +kernel
set_option maxRecDepth 65536 in
theorem w_ripe : about1.ripe theMethod args0 below0 = true := by decide +kernel
theorem w_running : about1.status = .running := rfl
set_option maxRecDepth 65536 in
theorem w_room : about1.hasRoom e0.platform room_1 = true :=
  launch0.hasRoom_least _ room_1 (by decide +kernel) (by decide +kernel) (by decide +kernel) (by decide +kernel) (by decide +kernel) (by decide +kernel)
theorem allAtoms_all (ts : List Jvm.Cond) (a : Array Jvm.Value) (st : Jvm.State) : (allAtoms ts).before a st = ts.all (fun c => c.before a st) := by
  induction ts with
  | nil => rfl
  | cons c t ih =>
    show (Jvm.Cond.and c (allAtoms t)).before a st = _
    rw [Jvm.Cond.before_and, ih, List.all_cons]
def words1 : List Jvm.Cond := Jvm.Cond.code x code maxLocals ret :: tables_1
/-- a 'code' word, met by the world's own term for the bytes: nothing is compared byte by byte -/
theorem code_word {y : MethodName} {bytes : ByteArray} {mx : Nat} {rt : Option FieldType} {a : Array Value} {s : State} {m : MethodId} {meth : Method} {c : Code} (h1 : s.methodNamed? y = some m) (h2 : s.vm.method? m = some meth) (h3 : meth.code = some c) (h4 : c.code = bytes)
    (h5 : (c.maxLocals == mx && c.exceptionTable.isEmpty && decide (c.maxStack ≤ mostOperands) && decide (meth.sig.returnType = rt) && !meth.locks && decide (parseMethodDescriptor y.desc = some meth.sig)) = true) : (Jvm.Cond.code y bytes mx rt).before a s = true := by
  simp only [Bool.and_eq_true, beq_iff_eq, Bool.not_eq_true', decide_eq_true_eq] at h5
  obtain ⟨⟨⟨⟨⟨g1, g2⟩, g3⟩, g4⟩, g5⟩, g6⟩ := h5
  simp [Cond.before, Cond.holds, Cond.value, h1, h2, h3, h4, g1, g2, g3, g4, g5, g6]
def isCode : Jvm.Cond → Bool
  | .code _ _ _ _ => true
  | _ => false
theorem all_split {L : List Jvm.Cond} {P : Jvm.Cond → Bool} (h1 : L.all (fun c => isCode c || P c) = true) (h2 : ∀ c ∈ L.filter isCode, P c = true) : L.all P = true := by
  refine List.all_eq_true.mpr fun c hc => ?_
  have h := List.all_eq_true.mp h1 c hc
  rcases Bool.eq_false_or_eq_true (isCode c) with hi | hi
  · exact h2 c (List.mem_filter.mpr ⟨hc, hi⟩)
  · simpa [hi] using h
set_option maxRecDepth 65536 in
theorem w_c0 : (Jvm.Cond.code x code maxLocals ret).before args0 about1 = true := code_word (m := ⟨1, 3⟩) (meth := k1m3) (c := k1c3) (by decide +kernel) rfl rfl rfl (by decide +kernel)
set_option maxRecDepth 65536 in
theorem w_c1 : (Jvm.Cond.code ({ cls := "com/example/sightline/sightline/checker/ByActivity", name := "<init>", desc := "(I)V" } : Jvm.MethodName) prog_2_method_1_code (2 : Nat) (Option.none : Option Jvm.ClassFile.FieldType)).before args0 about1 = true := code_word (m := ⟨2, 0⟩) (meth := k2m0) (c := k2c0) (by decide +kernel) rfl rfl rfl (by decide +kernel)
set_option maxRecDepth 65536 in
theorem w_c2 : (Jvm.Cond.code ({ cls := "java/lang/Object", name := "<init>", desc := "()V" } : Jvm.MethodName) object_method_1_code (1 : Nat) (Option.none : Option Jvm.ClassFile.FieldType)).before args0 about1 = true := code_word (m := ⟨0, 0⟩) (meth := k0m0) (c := k0c0) (by decide +kernel) rfl rfl rfl (by decide +kernel)
set_option maxRecDepth 65536 in
theorem w_c3 : (Jvm.Cond.code ({ cls := "com/example/sightline/sightline/checker/ByActivityDecayPinLaw", name := "bumps", desc := "(Lcom/example/sightline/sightline/checker/ByActivity;II)V" } : Jvm.MethodName) method_2_code (3 : Nat) (Option.none : Option Jvm.ClassFile.FieldType)).before args0 about1 = true := code_word (m := ⟨1, 1⟩) (meth := k1m1) (c := k1c1) (by decide +kernel) rfl rfl rfl (by decide +kernel)
set_option maxRecDepth 65536 in
theorem w_c4 : (Jvm.Cond.code ({ cls := "com/example/sightline/sightline/checker/ByActivity", name := "bump", desc := "(I)V" } : Jvm.MethodName) prog_2_method_2_code (2 : Nat) (Option.none : Option Jvm.ClassFile.FieldType)).before args0 about1 = true := code_word (m := ⟨2, 1⟩) (meth := k2m1) (c := k2c1) (by decide +kernel) rfl rfl rfl (by decide +kernel)
set_option maxRecDepth 65536 in
theorem w_c5 : (Jvm.Cond.code ({ cls := "java/util/Arrays", name := "fill", desc := "([II)V" } : Jvm.MethodName) jdk_65_method_103_code (4 : Nat) (Option.none : Option Jvm.ClassFile.FieldType)).before args0 about1 = true := code_word (m := ⟨3, 1⟩) (meth := k3m1) (c := k3c1) (by decide +kernel) rfl rfl rfl (by decide +kernel)
set_option maxRecDepth 65536 in
theorem w_c6 : (Jvm.Cond.code ({ cls := "com/example/sightline/sightline/checker/ByActivity", name := "push", desc := "(I)V" } : Jvm.MethodName) prog_2_method_6_code (2 : Nat) (Option.none : Option Jvm.ClassFile.FieldType)).before args0 about1 = true := code_word (m := ⟨2, 4⟩) (meth := k2m4) (c := k2c4) (by decide +kernel) rfl rfl rfl (by decide +kernel)
set_option maxRecDepth 65536 in
theorem w_c7 : (Jvm.Cond.code ({ cls := "com/example/sightline/sightline/checker/ByActivity", name := "place", desc := "(II)V" } : Jvm.MethodName) prog_2_method_10_code (3 : Nat) (Option.none : Option Jvm.ClassFile.FieldType)).before args0 about1 = true := code_word (m := ⟨2, 7⟩) (meth := k2m7) (c := k2c7) (by decide +kernel) rfl rfl rfl (by decide +kernel)
set_option maxRecDepth 65536 in
theorem w_c8 : (Jvm.Cond.code ({ cls := "com/example/sightline/sightline/checker/ByActivity", name := "up", desc := "(I)V" } : Jvm.MethodName) prog_2_method_8_code (3 : Nat) (Option.none : Option Jvm.ClassFile.FieldType)).before args0 about1 = true := code_word (m := ⟨2, 5⟩) (meth := k2m5) (c := k2c5) (by decide +kernel) rfl rfl rfl (by decide +kernel)
set_option maxRecDepth 65536 in
theorem w_c9 : (Jvm.Cond.code ({ cls := "com/example/sightline/sightline/checker/ByActivityDecayPinLaw", name := "decays", desc := "(Lcom/example/sightline/sightline/checker/ByActivity;I)V" } : Jvm.MethodName) method_3_code (2 : Nat) (Option.none : Option Jvm.ClassFile.FieldType)).before args0 about1 = true := code_word (m := ⟨1, 2⟩) (meth := k1m2) (c := k1c2) (by decide +kernel) rfl rfl rfl (by decide +kernel)
set_option maxRecDepth 65536 in
theorem w_c10 : (Jvm.Cond.code ({ cls := "com/example/sightline/sightline/checker/ByActivity", name := "decay", desc := "()V" } : Jvm.MethodName) prog_2_method_3_code (1 : Nat) (Option.none : Option Jvm.ClassFile.FieldType)).before args0 about1 = true := code_word (m := ⟨2, 2⟩) (meth := k2m2) (c := k2c2) (by decide +kernel) rfl rfl rfl (by decide +kernel)
set_option maxRecDepth 65536 in
theorem w_c11 : (Jvm.Cond.code ({ cls := "com/example/sightline/sightline/checker/ByActivity", name := "pop", desc := "()I" } : Jvm.MethodName) prog_2_method_5_code (2 : Nat) (Option.some Jvm.ClassFile.FieldType.int)).before args0 about1 = true := code_word (m := ⟨2, 3⟩) (meth := k2m3) (c := k2c3) (by decide +kernel) rfl rfl rfl (by decide +kernel)
set_option maxRecDepth 65536 in
theorem w_c12 : (Jvm.Cond.code ({ cls := "com/example/sightline/sightline/checker/ByActivity", name := "down", desc := "(I)V" } : Jvm.MethodName) prog_2_method_9_code (4 : Nat) (Option.none : Option Jvm.ClassFile.FieldType)).before args0 about1 = true := code_word (m := ⟨2, 6⟩) (meth := k2m6) (c := k2c6) (by decide +kernel) rfl rfl rfl (by decide +kernel)
def codes1 : List Jvm.Cond := [Jvm.Cond.code x code maxLocals ret, Jvm.Cond.code ({ cls := "com/example/sightline/sightline/checker/ByActivity", name := "<init>", desc := "(I)V" } : Jvm.MethodName) prog_2_method_1_code (2 : Nat) (Option.none : Option Jvm.ClassFile.FieldType), Jvm.Cond.code ({ cls := "java/lang/Object", name := "<init>", desc := "()V" } : Jvm.MethodName) object_method_1_code (1 : Nat) (Option.none : Option Jvm.ClassFile.FieldType), Jvm.Cond.code ({ cls := "com/example/sightline/sightline/checker/ByActivityDecayPinLaw", name := "bumps", desc := "(Lcom/example/sightline/sightline/checker/ByActivity;II)V" } : Jvm.MethodName) method_2_code (3 : Nat) (Option.none : Option Jvm.ClassFile.FieldType), Jvm.Cond.code ({ cls := "com/example/sightline/sightline/checker/ByActivity", name := "bump", desc := "(I)V" } : Jvm.MethodName) prog_2_method_2_code (2 : Nat) (Option.none : Option Jvm.ClassFile.FieldType), Jvm.Cond.code ({ cls := "java/util/Arrays", name := "fill", desc := "([II)V" } : Jvm.MethodName) jdk_65_method_103_code (4 : Nat) (Option.none : Option Jvm.ClassFile.FieldType), Jvm.Cond.code ({ cls := "com/example/sightline/sightline/checker/ByActivity", name := "push", desc := "(I)V" } : Jvm.MethodName) prog_2_method_6_code (2 : Nat) (Option.none : Option Jvm.ClassFile.FieldType), Jvm.Cond.code ({ cls := "com/example/sightline/sightline/checker/ByActivity", name := "place", desc := "(II)V" } : Jvm.MethodName) prog_2_method_10_code (3 : Nat) (Option.none : Option Jvm.ClassFile.FieldType), Jvm.Cond.code ({ cls := "com/example/sightline/sightline/checker/ByActivity", name := "up", desc := "(I)V" } : Jvm.MethodName) prog_2_method_8_code (3 : Nat) (Option.none : Option Jvm.ClassFile.FieldType), Jvm.Cond.code ({ cls := "com/example/sightline/sightline/checker/ByActivityDecayPinLaw", name := "decays", desc := "(Lcom/example/sightline/sightline/checker/ByActivity;I)V" } : Jvm.MethodName) method_3_code (2 : Nat) (Option.none : Option Jvm.ClassFile.FieldType), Jvm.Cond.code ({ cls := "com/example/sightline/sightline/checker/ByActivity", name := "decay", desc := "()V" } : Jvm.MethodName) prog_2_method_3_code (1 : Nat) (Option.none : Option Jvm.ClassFile.FieldType), Jvm.Cond.code ({ cls := "com/example/sightline/sightline/checker/ByActivity", name := "pop", desc := "()I" } : Jvm.MethodName) prog_2_method_5_code (2 : Nat) (Option.some Jvm.ClassFile.FieldType.int), Jvm.Cond.code ({ cls := "com/example/sightline/sightline/checker/ByActivity", name := "down", desc := "(I)V" } : Jvm.MethodName) prog_2_method_9_code (4 : Nat) (Option.none : Option Jvm.ClassFile.FieldType)]
set_option maxRecDepth 65536 in
theorem codes_eq : words1.filter isCode = codes1 := rfl
theorem w_codes : ∀ c ∈ words1.filter isCode, c.before args0 about1 = true := by
  rw [codes_eq]
  intro c hc
  simp only [codes1, List.mem_cons, List.not_mem_nil, or_false] at hc
  rcases hc with rfl | rfl | rfl | rfl | rfl | rfl | rfl | rfl | rfl | rfl | rfl | rfl | rfl
  · exact w_c0
  · exact w_c1
  · exact w_c2
  · exact w_c3
  · exact w_c4
  · exact w_c5
  · exact w_c6
  · exact w_c7
  · exact w_c8
  · exact w_c9
  · exact w_c10
  · exact w_c11
  · exact w_c12
set_option maxRecDepth 65536 in
theorem w_t1 : (words1.take 24).all (fun c => isCode c || c.before args0 about1) = true := by decide +kernel
set_option maxRecDepth 65536 in
theorem w_t2 : ((words1.drop 24).take 24).all (fun c => isCode c || c.before args0 about1) = true := by decide +kernel
set_option maxRecDepth 65536 in
theorem w_t3 : ((words1.drop 24).drop 24).all (fun c => isCode c || c.before args0 about1) = true := by decide +kernel
theorem w_tables : (allAtoms (Jvm.Cond.code x code maxLocals ret :: tables_1)).before args0 about1 = true := by
  rw [allAtoms_all]
  show words1.all (fun c => c.before args0 about1) = true
  refine all_split ?_ w_codes
  rw [← List.take_append_drop 24 words1, List.all_append, w_t1, ← List.take_append_drop 24 (words1.drop 24), List.all_append, w_t2, w_t3]
  rfl
set_option maxRecDepth 65536 in
theorem w_case : (Jvm.Cond.and given_1 narrow_1).before args0 about1 = true := by decide +kernel
theorem w_applies : (headSpec (Jvm.Cond.code x code maxLocals ret :: tables_1) room_1).applies x e0.platform about1 = true :=
  (Spec.applies_iff w_frames).mpr ⟨w_running, w_runnable, w_alone, w_named, w_hears, w_ripe, w_room, w_tables⟩
theorem atStart : AtStart classFile x code maxLocals ret World_1 tables_1 room_1 Calls_1 rest_1 Pre_1 launch0 p0 e0 about1 theMethod args0 below0 :=
  ⟨lists_1, trivial, launch0.admits_env _ _ _, launch0.least_env, fairChoices_fair.cas, fairChoices_fair.clock, w_frames, w_args, w_heap, w_applies, trivial, trivial, w_case⟩
end start1
theorem witness_1 : WitnessClaimed_1 := ⟨start1.p0, start1.e0, start1.about1, start1.theMethod, start1.args0, start1.below0, start1.atStart⟩
end Jvm.Pilot.@@N@@

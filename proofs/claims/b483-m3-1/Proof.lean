import JvmDerived
import JvmDerived.Pilot.@@N@@Statement
import JvmDerived.Pilot.@@N@@Code
set_option linter.unusedVariables false
set_option linter.unusedSimpArgs false
namespace Jvm.OwnWp
open Sem ClassFile Op Lib Jvm.Stand Jvm.Free Jvm.LawKit Jvm.RoadKit
/-- what holds of the method that is walked: its bytes, its class, its tables -/
def Cx (Z : State) (own nm : String) (bytes : ByteArray) (ml : Nat) (ret : Option FieldType) (p : Program) (s : State) (m : MethodId) (meth : Method) (c : Code) : Prop :=
  p.tables.exec = Jvm.exec ∧ Z.Warmed39 s.vm ∧ s.vm.findClass own = some m.cls ∧ c.code = bytes ∧ c.maxLocals = ml ∧ meth.sig.returnType = ret ∧ meth.locks = false ∧ meth.name = nm
/-- from the frame g over the heap h the method returns v at a heap of which Q holds; it has written fresh places alone -/
def Go (p : Program) (l : Launch) (e : Env) (R : Room) (s : State) (m : MethodId) (args : Array Value) (below : List Frame) (meth : Method) (c : Code) (n0 : Nat) (h : Heap) (ce sl : Nat) (g : JFrame) (Q : Option Value → Heap → Prop) : Prop :=
  ∀ (T : State) (L : List Loc), Stand p l e R s m args below meth c T L ce sl → Fr n0 L → T.heap = h →
    ∃ (s₂ : State) (v : Option Value) (L' : List Loc), Steps p.tables e below (T.setTop g) s₂ ∧ s₂.status = .running ∧ Ended s₂ below (.returned v) ∧ Fr n0 L' ∧ Q v s₂.heap ∧ FrameEnd s (.returned v) s₂ L' R.cells R.slots
/-- the contract of a method: called with the values as' over the heap h it returns as Q says -/
def Ctr (l : Launch) (Z : State) (y : MethodName) (bytes : ByteArray) (ml : Nat) (ret : Option FieldType) (ws : List Cond) (rm : Room) (n0 : Nat) (as' : Array Value) (h : Heap) (Q : Option Value → Heap → Prop) : Prop :=
  MetFree l y (head1 (Cond.code y bytes ml ret :: ws) rm) (fun a U => a = as' ∧ Z.Warmed39 U.vm ∧ U.heap = h) (fun _ _ _ _ _ => True) (fun _ U o U' => ∃ v L, o = .returned v ∧ (Q v U'.heap ∧ Fr n0 L) ∧ FrameEnd U o U' L rm.cells rm.slots)
section Walk
variable {p : Program} {l : Launch} {e : Env} {R : Room} {s : State} {m : MethodId} {args : Array Value} {below : List Frame} {meth : Method} {c : Code} {Z : State} {a0 : Array Value} {own nm : String} {bytes : ByteArray} {ml : Nat} {ret : Option FieldType} {n0 ce sl pc pc' : Nat} {h : Heap} {Ls Ls' : Array Slot} {S : List Value} {Q : Option Value → Heap → Prop}
theorem one {g g' : JFrame} (st : ∀ (T : State) (L : List Loc), Stand p l e R s m args below meth c T L ce sl → T.heap = h → ∀ t, Steps p.tables e below (T.setTop g') t → Steps p.tables e below (T.setTop g) t) (q : Go p l e R s m args below meth c n0 h ce sl g' Q) : Go p l e R s m args below meth c n0 h ce sl g Q := fun T L X N eT => by
  obtain ⟨s₂, v, L', a1, r⟩ := q T L X N eT
  exact ⟨s₂, v, L', st T L X eT _ a1, r⟩
/-- a step that goes to another state over the same heap -/
theorem oneT {g g' : JFrame} (st : ∀ (T : State) (L : List Loc), Stand p l e R s m args below meth c T L ce sl → T.heap = h → ∃ T', Stand p l e R s m args below meth c T' L ce sl ∧ T'.heap = h ∧ ∀ t, Steps p.tables e below (T'.setTop g') t → Steps p.tables e below (T.setTop g) t) (q : Go p l e R s m args below meth c n0 h ce sl g' Q) : Go p l e R s m args below meth c n0 h ce sl g Q := fun T L X N eT => by
  obtain ⟨T', X', eT', k⟩ := st T L X eT
  obtain ⟨s₂, v, L', a1, r⟩ := q T' L X' N eT'
  exact ⟨s₂, v, L', k _ a1, r⟩
theorem Go.cast {g g' : JFrame} (q : g = g') (k : Go p l e R s m args below meth c n0 h ce sl g' Q) : Go p l e R s m args below meth c n0 h ce sl g Q := q ▸ k
theorem Go.mono {g : JFrame} {Q' : Option Value → Heap → Prop} (k : Go p l e R s m args below meth c n0 h ce sl g Q') (q : ∀ v h, Q' v h → Q v h) : Go p l e R s m args below meth c n0 h ce sl g Q := fun T L X N eT => by
  obtain ⟨s₂, v, L', a1, a2, a3, a4, a5, r⟩ := k T L X N eT
  exact ⟨s₂, v, L', a1, a2, a3, a4, q _ _ a5, r⟩

theorem iloadN (K : Cx Z own nm bytes ml ret p s m meth c) {k : Fin 4} {v : Int32} (hd : decode bytes pc = .ok (.iload_n k, 1)) (hl : Ls[k.val]? = some (.val (.int v))) (hp : pc + 1 = pc') (q : Go p l e R s m args below meth c n0 h ce sl (mkF m pc' Ls (.int v :: S)) Q) : Go p l e R s m args below meth c n0 h ce sl (mkF m pc Ls S) Q := by
  subst hp; exact one (fun T L X _ t => Jvm.Free.XS.iloadN X.here K.1 rfl (hb K.2.2.2.1 hd) hl) q
theorem iload (K : Cx Z own nm bytes ml ret p s m meth c) {k : Nat} {v : Int32} (hd : decode bytes pc = .ok (.iload k, 2)) (hl : Ls[k]? = some (.val (.int v))) (hp : pc + 2 = pc') (q : Go p l e R s m args below meth c n0 h ce sl (mkF m pc' Ls (.int v :: S)) Q) : Go p l e R s m args below meth c n0 h ce sl (mkF m pc Ls S) Q := by
  subst hp; exact one (fun T L X _ t => Jvm.Free.XS.iload X.here K.1 rfl (hb K.2.2.2.1 hd) hl) q
theorem istoreN (K : Cx Z own nm bytes ml ret p s m meth c) {k : Fin 4} {v : Int32} (hd : decode bytes pc = .ok (.istore_n k, 1)) (hl : storeLocals Ls k.val (.int v) = some Ls') (hp : pc + 1 = pc') (q : Go p l e R s m args below meth c n0 h ce sl (mkF m pc' Ls' S) Q) : Go p l e R s m args below meth c n0 h ce sl (mkF m pc Ls (.int v :: S)) Q := by
  subst hp; exact one (fun T L X _ t => Jvm.Free.XS.istoreN X.here K.1 rfl (hb K.2.2.2.1 hd) rfl hl) q
theorem istore (K : Cx Z own nm bytes ml ret p s m meth c) {k : Nat} {v : Int32} (hd : decode bytes pc = .ok (.istore k, 2)) (hl : storeLocals Ls k (.int v) = some Ls') (hp : pc + 2 = pc') (q : Go p l e R s m args below meth c n0 h ce sl (mkF m pc' Ls' S) Q) : Go p l e R s m args below meth c n0 h ce sl (mkF m pc Ls (.int v :: S)) Q := by
  subst hp; exact one (fun T L X _ t => Jvm.Free.XS.istore X.here K.1 rfl (hb K.2.2.2.1 hd) rfl hl) q
theorem lloadN (K : Cx Z own nm bytes ml ret p s m meth c) {k : Fin 4} {v : Int64} (hd : decode bytes pc = .ok (.lload_n k, 1)) (hl : Ls[k.val]? = some (.val (.long v))) (hp : pc + 1 = pc') (q : Go p l e R s m args below meth c n0 h ce sl (mkF m pc' Ls (.long v :: S)) Q) : Go p l e R s m args below meth c n0 h ce sl (mkF m pc Ls S) Q := by
  subst hp; exact one (fun T L X _ t => Jvm.Free.XT.lloadN X.here K.1 rfl (hb K.2.2.2.1 hd) hl) q
theorem lload (K : Cx Z own nm bytes ml ret p s m meth c) {k : Nat} {v : Int64} (hd : decode bytes pc = .ok (.lload k, 2)) (hl : Ls[k]? = some (.val (.long v))) (hp : pc + 2 = pc') (q : Go p l e R s m args below meth c n0 h ce sl (mkF m pc' Ls (.long v :: S)) Q) : Go p l e R s m args below meth c n0 h ce sl (mkF m pc Ls S) Q := by
  subst hp; exact one (fun T L X _ t => Jvm.Free.XT.lload X.here K.1 rfl (hb K.2.2.2.1 hd) hl) q
theorem lstoreN (K : Cx Z own nm bytes ml ret p s m meth c) {k : Fin 4} {v : Int64} (hd : decode bytes pc = .ok (.lstore_n k, 1)) (hl : storeLocals Ls k.val (.long v) = some Ls') (hp : pc + 1 = pc') (q : Go p l e R s m args below meth c n0 h ce sl (mkF m pc' Ls' S) Q) : Go p l e R s m args below meth c n0 h ce sl (mkF m pc Ls (.long v :: S)) Q := by
  subst hp; exact one (fun T L X _ t => Jvm.Free.XT.lstoreN X.here K.1 rfl (hb K.2.2.2.1 hd) rfl hl) q
theorem lstore (K : Cx Z own nm bytes ml ret p s m meth c) {k : Nat} {v : Int64} (hd : decode bytes pc = .ok (.lstore k, 2)) (hl : storeLocals Ls k (.long v) = some Ls') (hp : pc + 2 = pc') (q : Go p l e R s m args below meth c n0 h ce sl (mkF m pc' Ls' S) Q) : Go p l e R s m args below meth c n0 h ce sl (mkF m pc Ls (.long v :: S)) Q := by
  subst hp; exact one (fun T L X _ t => Jvm.Free.XT.lstore X.here K.1 rfl (hb K.2.2.2.1 hd) rfl hl) q
theorem dloadN (K : Cx Z own nm bytes ml ret p s m meth c) {k : Fin 4} {v : UInt64} (hd : decode bytes pc = .ok (.dload_n k, 1)) (hl : Ls[k.val]? = some (.val (.double v))) (hp : pc + 1 = pc') (q : Go p l e R s m args below meth c n0 h ce sl (mkF m pc' Ls (.double v :: S)) Q) : Go p l e R s m args below meth c n0 h ce sl (mkF m pc Ls S) Q := by
  subst hp; exact one (fun T L X _ t => Jvm.Free.XS.dloadN X.here K.1 rfl (hb K.2.2.2.1 hd) hl) q
theorem dload (K : Cx Z own nm bytes ml ret p s m meth c) {k : Nat} {v : UInt64} (hd : decode bytes pc = .ok (.dload k, 2)) (hl : Ls[k]? = some (.val (.double v))) (hp : pc + 2 = pc') (q : Go p l e R s m args below meth c n0 h ce sl (mkF m pc' Ls (.double v :: S)) Q) : Go p l e R s m args below meth c n0 h ce sl (mkF m pc Ls S) Q := by
  subst hp; exact one (fun T L X _ t => Jvm.Free.XS.dload X.here K.1 rfl (hb K.2.2.2.1 hd) hl) q
theorem dstoreN (K : Cx Z own nm bytes ml ret p s m meth c) {k : Fin 4} {v : UInt64} (hd : decode bytes pc = .ok (.dstore_n k, 1)) (hl : storeLocals Ls k.val (.double v) = some Ls') (hp : pc + 1 = pc') (q : Go p l e R s m args below meth c n0 h ce sl (mkF m pc' Ls' S) Q) : Go p l e R s m args below meth c n0 h ce sl (mkF m pc Ls (.double v :: S)) Q := by
  subst hp; exact one (fun T L X _ t => Jvm.Free.XS.dstoreN X.here K.1 rfl (hb K.2.2.2.1 hd) rfl hl) q
theorem dstore (K : Cx Z own nm bytes ml ret p s m meth c) {k : Nat} {v : UInt64} (hd : decode bytes pc = .ok (.dstore k, 2)) (hl : storeLocals Ls k (.double v) = some Ls') (hp : pc + 2 = pc') (q : Go p l e R s m args below meth c n0 h ce sl (mkF m pc' Ls' S) Q) : Go p l e R s m args below meth c n0 h ce sl (mkF m pc Ls (.double v :: S)) Q := by
  subst hp; exact one (fun T L X _ t => Jvm.Free.XS.dstore X.here K.1 rfl (hb K.2.2.2.1 hd) rfl hl) q
theorem aloadN (K : Cx Z own nm bytes ml ret p s m meth c) {k : Fin 4} {v : Value} (hd : decode bytes pc = .ok (.aload_n k, 1)) (hl : Ls[k.val]? = some (.val v)) (hv : v.isRef = true) (hp : pc + 1 = pc') (q : Go p l e R s m args below meth c n0 h ce sl (mkF m pc' Ls (v :: S)) Q) : Go p l e R s m args below meth c n0 h ce sl (mkF m pc Ls S) Q := by
  subst hp; exact one (fun T L X _ t => Jvm.Free.XS.aloadN X.here K.1 rfl (hb K.2.2.2.1 hd) hl hv) q
theorem aload (K : Cx Z own nm bytes ml ret p s m meth c) {k : Nat} {v : Value} (hd : decode bytes pc = .ok (.aload k, 2)) (hl : Ls[k]? = some (.val v)) (hv : v.isRef = true) (hp : pc + 2 = pc') (q : Go p l e R s m args below meth c n0 h ce sl (mkF m pc' Ls (v :: S)) Q) : Go p l e R s m args below meth c n0 h ce sl (mkF m pc Ls S) Q := by
  subst hp; exact one (fun T L X _ t => Jvm.Free.XS.aload X.here K.1 rfl (hb K.2.2.2.1 hd) hl hv) q
theorem astoreN (K : Cx Z own nm bytes ml ret p s m meth c) {k : Fin 4} {v : Value} (hd : decode bytes pc = .ok (.astore_n k, 1)) (hv : v.isRef = true) (hl : storeLocals Ls k.val v = some Ls') (hp : pc + 1 = pc') (q : Go p l e R s m args below meth c n0 h ce sl (mkF m pc' Ls' S) Q) : Go p l e R s m args below meth c n0 h ce sl (mkF m pc Ls (v :: S)) Q := by
  subst hp; exact one (fun T L X _ t => Jvm.Free.XS.astoreN X.here K.1 rfl (hb K.2.2.2.1 hd) rfl hv hl) q
theorem astore (K : Cx Z own nm bytes ml ret p s m meth c) {k : Nat} {v : Value} (hd : decode bytes pc = .ok (.astore k, 2)) (hv : v.isRef = true) (hl : storeLocals Ls k v = some Ls') (hp : pc + 2 = pc') (q : Go p l e R s m args below meth c n0 h ce sl (mkF m pc' Ls' S) Q) : Go p l e R s m args below meth c n0 h ce sl (mkF m pc Ls (v :: S)) Q := by
  subst hp; exact one (fun T L X _ t => Jvm.Free.XS.astore X.here K.1 rfl (hb K.2.2.2.1 hd) rfl hv hl) q
theorem iconst (K : Cx Z own nm bytes ml ret p s m meth c) {i : Int} (v : Int32) (hd : decode bytes pc = .ok (.iconst i, 1)) (hv : Int32.ofInt i = v) (hp : pc + 1 = pc') (q : Go p l e R s m args below meth c n0 h ce sl (mkF m pc' Ls (.int v :: S)) Q) : Go p l e R s m args below meth c n0 h ce sl (mkF m pc Ls S) Q := by
  subst hp; exact one (fun T L X _ t => Jvm.Free.XT.iconstV X.here K.1 rfl v (hb K.2.2.2.1 hd) hv) q
theorem bipush (K : Cx Z own nm bytes ml ret p s m meth c) {i : Int} (v : Int32) (hd : decode bytes pc = .ok (.bipush i, 2)) (hv : (Int8.ofInt i).toInt32 = v) (hp : pc + 2 = pc') (q : Go p l e R s m args below meth c n0 h ce sl (mkF m pc' Ls (.int v :: S)) Q) : Go p l e R s m args below meth c n0 h ce sl (mkF m pc Ls S) Q := by
  subst hp; exact one (fun T L X _ t => Jvm.Free.XT.bipushV X.here K.1 rfl v (hb K.2.2.2.1 hd) hv) q
theorem sipush (K : Cx Z own nm bytes ml ret p s m meth c) {i : Int} (v : Int32) (hd : decode bytes pc = .ok (.sipush i, 3)) (hv : (Int16.ofInt i).toInt32 = v) (hp : pc + 3 = pc') (q : Go p l e R s m args below meth c n0 h ce sl (mkF m pc' Ls (.int v :: S)) Q) : Go p l e R s m args below meth c n0 h ce sl (mkF m pc Ls S) Q := by
  subst hp; exact one (fun T L X _ t => Jvm.Free.XT.sipushV X.here K.1 rfl v (hb K.2.2.2.1 hd) hv) q
theorem lconst (K : Cx Z own nm bytes ml ret p s m meth c) {i : Fin 2} (v : Int64) (hd : decode bytes pc = .ok (.lconst i, 1)) (hv : Int64.ofNat i = v) (hp : pc + 1 = pc') (q : Go p l e R s m args below meth c n0 h ce sl (mkF m pc' Ls (.long v :: S)) Q) : Go p l e R s m args below meth c n0 h ce sl (mkF m pc Ls S) Q := by
  subst hp; exact one (fun T L X _ t => Jvm.Free.XT.lconstV X.here K.1 rfl v (hb K.2.2.2.1 hd) hv) q
theorem istoreS (K : Cx Z own nm bytes ml ret p s m meth c) {k : Nat} {x : Int32} {o : Slot} (hd : decode bytes pc = .ok (.istore k, 2)) (hold : Ls[k]? = some o) (ho : One o) (hl : Ls.setIfInBounds k (.val (.int x)) = Ls') (hp : pc + 2 = pc') (q : Go p l e R s m args below meth c n0 h ce sl (mkF m pc' Ls' S) Q) : Go p l e R s m args below meth c n0 h ce sl (mkF m pc Ls (.int x :: S)) Q := by
  subst hp hl; exact one (fun T L X _ t => Jvm.Free.XS.istoreS X.here K.1 rfl (hb K.2.2.2.1 hd) rfl hold ho) q
theorem istoreNS (K : Cx Z own nm bytes ml ret p s m meth c) {k : Fin 4} {x : Int32} {o : Slot} (hd : decode bytes pc = .ok (.istore_n k, 1)) (hold : Ls[k.val]? = some o) (ho : One o) (hl : Ls.setIfInBounds k.val (.val (.int x)) = Ls') (hp : pc + 1 = pc') (q : Go p l e R s m args below meth c n0 h ce sl (mkF m pc' Ls' S) Q) : Go p l e R s m args below meth c n0 h ce sl (mkF m pc Ls (.int x :: S)) Q := by
  subst hp hl; exact one (fun T L X _ t => Jvm.Free.XS.istoreNS X.here K.1 rfl (hb K.2.2.2.1 hd) rfl hold ho) q
theorem dconst0 (K : Cx Z own nm bytes ml ret p s m meth c) {v : UInt64} (hd : decode bytes pc = .ok (.dconst 0, 1)) (hv : FP.dconst0 = v) (hp : pc + 1 = pc') (q : Go p l e R s m args below meth c n0 h ce sl (mkF m pc' Ls (.double v :: S)) Q) : Go p l e R s m args below meth c n0 h ce sl (mkF m pc Ls S) Q := by
  subst hp; exact one (fun T L X _ t => Jvm.Free.XS.dconst0 X.here K.1 rfl (hb K.2.2.2.1 hd) hv) q
theorem dconst1 (K : Cx Z own nm bytes ml ret p s m meth c) {v : UInt64} (hd : decode bytes pc = .ok (.dconst 1, 1)) (hv : FP.dconst1 = v) (hp : pc + 1 = pc') (q : Go p l e R s m args below meth c n0 h ce sl (mkF m pc' Ls (.double v :: S)) Q) : Go p l e R s m args below meth c n0 h ce sl (mkF m pc Ls S) Q := by
  subst hp; exact one (fun T L X _ t => Jvm.Free.XS.dconst1 X.here K.1 rfl (hb K.2.2.2.1 hd) hv) q
theorem anull (K : Cx Z own nm bytes ml ret p s m meth c) (hd : decode bytes pc = .ok (.aconst_null, 1)) (hp : pc + 1 = pc') (q : Go p l e R s m args below meth c n0 h ce sl (mkF m pc' Ls (.null :: S)) Q) : Go p l e R s m args below meth c n0 h ce sl (mkF m pc Ls S) Q := by
  subst hp; exact one (fun T L X _ t => Jvm.Free.XS.aconstNull X.here K.1 rfl (hb K.2.2.2.1 hd) ) q
theorem iinc (K : Cx Z own nm bytes ml ret p s m meth c) {k : Nat} {i : Int} {x : Int32} (v : Int32) (hd : decode bytes pc = .ok (.iinc k i, 3)) (hv : Int32.ofInt i = v) (hl : Ls[k]? = some (.val (.int x))) (hl' : storeLocals Ls k (.int (x + v)) = some Ls') (hp : pc + 3 = pc') (q : Go p l e R s m args below meth c n0 h ce sl (mkF m pc' Ls' S) Q) : Go p l e R s m args below meth c n0 h ce sl (mkF m pc Ls S) Q := by
  subst hp; exact one (fun T L X _ t => Jvm.Free.XT.iincV X.here K.1 rfl v (hb K.2.2.2.1 hd) hv hl hl') q
theorem iadd (K : Cx Z own nm bytes ml ret p s m meth c) {x y : Int32} (hd : decode bytes pc = .ok (.iadd, 1)) (hp : pc + 1 = pc') (q : Go p l e R s m args below meth c n0 h ce sl (mkF m pc' Ls (.int (x + y) :: S)) Q) : Go p l e R s m args below meth c n0 h ce sl (mkF m pc Ls (.int y :: .int x :: S)) Q := by
  subst hp; exact one (fun T L X _ t => Jvm.Free.XS.iadd X.here K.1 rfl (hb K.2.2.2.1 hd) rfl) q
theorem isub (K : Cx Z own nm bytes ml ret p s m meth c) {x y : Int32} (hd : decode bytes pc = .ok (.isub, 1)) (hp : pc + 1 = pc') (q : Go p l e R s m args below meth c n0 h ce sl (mkF m pc' Ls (.int (x - y) :: S)) Q) : Go p l e R s m args below meth c n0 h ce sl (mkF m pc Ls (.int y :: .int x :: S)) Q := by
  subst hp; exact one (fun T L X _ t => Jvm.Free.XS.isub X.here K.1 rfl (hb K.2.2.2.1 hd) rfl) q
theorem imul (K : Cx Z own nm bytes ml ret p s m meth c) {x y : Int32} (hd : decode bytes pc = .ok (.imul, 1)) (hp : pc + 1 = pc') (q : Go p l e R s m args below meth c n0 h ce sl (mkF m pc' Ls (.int (x * y) :: S)) Q) : Go p l e R s m args below meth c n0 h ce sl (mkF m pc Ls (.int y :: .int x :: S)) Q := by
  subst hp; exact one (fun T L X _ t => Jvm.Free.XS.imul X.here K.1 rfl (hb K.2.2.2.1 hd) rfl) q
theorem iand (K : Cx Z own nm bytes ml ret p s m meth c) {x y : Int32} (hd : decode bytes pc = .ok (.iand, 1)) (hp : pc + 1 = pc') (q : Go p l e R s m args below meth c n0 h ce sl (mkF m pc' Ls (.int (x &&& y) :: S)) Q) : Go p l e R s m args below meth c n0 h ce sl (mkF m pc Ls (.int y :: .int x :: S)) Q := by
  subst hp; exact one (fun T L X _ t => Jvm.Free.XS.iand X.here K.1 rfl (hb K.2.2.2.1 hd) rfl) q
theorem ior (K : Cx Z own nm bytes ml ret p s m meth c) {x y : Int32} (hd : decode bytes pc = .ok (.ior, 1)) (hp : pc + 1 = pc') (q : Go p l e R s m args below meth c n0 h ce sl (mkF m pc' Ls (.int (x ||| y) :: S)) Q) : Go p l e R s m args below meth c n0 h ce sl (mkF m pc Ls (.int y :: .int x :: S)) Q := by
  subst hp; exact one (fun T L X _ t => Jvm.Free.XT.ior X.here K.1 rfl (hb K.2.2.2.1 hd) rfl) q
theorem ixor (K : Cx Z own nm bytes ml ret p s m meth c) {x y : Int32} (hd : decode bytes pc = .ok (.ixor, 1)) (hp : pc + 1 = pc') (q : Go p l e R s m args below meth c n0 h ce sl (mkF m pc' Ls (.int (x ^^^ y) :: S)) Q) : Go p l e R s m args below meth c n0 h ce sl (mkF m pc Ls (.int y :: .int x :: S)) Q := by
  subst hp; exact one (fun T L X _ t => Jvm.Free.XT.ixor X.here K.1 rfl (hb K.2.2.2.1 hd) rfl) q
theorem ishl (K : Cx Z own nm bytes ml ret p s m meth c) {x y : Int32} (hd : decode bytes pc = .ok (.ishl, 1)) (hp : pc + 1 = pc') (q : Go p l e R s m args below meth c n0 h ce sl (mkF m pc' Ls (.int (x <<< (y &&& 31)) :: S)) Q) : Go p l e R s m args below meth c n0 h ce sl (mkF m pc Ls (.int y :: .int x :: S)) Q := by
  subst hp; exact one (fun T L X _ t => Jvm.Free.XT.ishl X.here K.1 rfl (hb K.2.2.2.1 hd) rfl) q
theorem ishr (K : Cx Z own nm bytes ml ret p s m meth c) {x y : Int32} (hd : decode bytes pc = .ok (.ishr, 1)) (hp : pc + 1 = pc') (q : Go p l e R s m args below meth c n0 h ce sl (mkF m pc' Ls (.int (x >>> (y &&& 31)) :: S)) Q) : Go p l e R s m args below meth c n0 h ce sl (mkF m pc Ls (.int y :: .int x :: S)) Q := by
  subst hp; exact one (fun T L X _ t => Jvm.Free.XT.ishr X.here K.1 rfl (hb K.2.2.2.1 hd) rfl) q
theorem iushr (K : Cx Z own nm bytes ml ret p s m meth c) {x y : Int32} (hd : decode bytes pc = .ok (.iushr, 1)) (hp : pc + 1 = pc') (q : Go p l e R s m args below meth c n0 h ce sl (mkF m pc' Ls (.int ((x.toUInt32 >>> (y &&& 31).toUInt32).toInt32) :: S)) Q) : Go p l e R s m args below meth c n0 h ce sl (mkF m pc Ls (.int y :: .int x :: S)) Q := by
  subst hp; exact one (fun T L X _ t => Jvm.Free.XT.iushr X.here K.1 rfl (hb K.2.2.2.1 hd) rfl) q
theorem irem_mod (x y : Int32) : x - (x / y) * y = x % y := by
  apply Int32.toInt_inj.mp
  have h1 := Int32.le_toInt (x % y)
  have h2 := Int32.toInt_lt (x % y)
  rw [Int32.toInt_sub, Int32.toInt_mul, Int32.toInt_div, Int.bmod_mul_bmod, Int.sub_bmod_bmod, Int.mul_comm (x.toInt.tdiv y.toInt), ← Int.tmod_def, ← Int32.toInt_mod]
  exact Int.bmod_eq_of_le_mul_two (by omega) (by omega)
theorem irem (K : Cx Z own nm bytes ml ret p s m meth c) {x y : Int32} (hd : decode bytes pc = .ok (.irem, 1)) (hy : y ≠ 0) (hp : pc + 1 = pc') (q : Go p l e R s m args below meth c n0 h ce sl (mkF m pc' Ls (.int (x % y) :: S)) Q) : Go p l e R s m args below meth c n0 h ce sl (mkF m pc Ls (.int y :: .int x :: S)) Q := by
  subst hp; rw [← irem_mod] at q; exact one (fun T L X _ t => Jvm.Free.XS.irem X.here K.1 rfl (hb K.2.2.2.1 hd) rfl hy) q
theorem idiv (K : Cx Z own nm bytes ml ret p s m meth c) {x y : Int32} (hd : decode bytes pc = .ok (.idiv, 1)) (hy : y ≠ 0) (hp : pc + 1 = pc') (q : Go p l e R s m args below meth c n0 h ce sl (mkF m pc' Ls (.int (x / y) :: S)) Q) : Go p l e R s m args below meth c n0 h ce sl (mkF m pc Ls (.int y :: .int x :: S)) Q := by
  subst hp; exact one (fun T L X _ t => Jvm.Free.XS.idiv X.here K.1 rfl (hb K.2.2.2.1 hd) rfl hy) q
theorem ladd (K : Cx Z own nm bytes ml ret p s m meth c) {x y : Int64} (hd : decode bytes pc = .ok (.ladd, 1)) (hp : pc + 1 = pc') (q : Go p l e R s m args below meth c n0 h ce sl (mkF m pc' Ls (.long (x + y) :: S)) Q) : Go p l e R s m args below meth c n0 h ce sl (mkF m pc Ls (.long y :: .long x :: S)) Q := by
  subst hp; exact one (fun T L X _ t => Jvm.Free.XT.ladd X.here K.1 rfl (hb K.2.2.2.1 hd) rfl) q
theorem lsub (K : Cx Z own nm bytes ml ret p s m meth c) {x y : Int64} (hd : decode bytes pc = .ok (.lsub, 1)) (hp : pc + 1 = pc') (q : Go p l e R s m args below meth c n0 h ce sl (mkF m pc' Ls (.long (x - y) :: S)) Q) : Go p l e R s m args below meth c n0 h ce sl (mkF m pc Ls (.long y :: .long x :: S)) Q := by
  subst hp; exact one (fun T L X _ t => Jvm.Free.XT.lsub X.here K.1 rfl (hb K.2.2.2.1 hd) rfl) q
theorem lmul (K : Cx Z own nm bytes ml ret p s m meth c) {x y : Int64} (hd : decode bytes pc = .ok (.lmul, 1)) (hp : pc + 1 = pc') (q : Go p l e R s m args below meth c n0 h ce sl (mkF m pc' Ls (.long (x * y) :: S)) Q) : Go p l e R s m args below meth c n0 h ce sl (mkF m pc Ls (.long y :: .long x :: S)) Q := by
  subst hp; exact one (fun T L X _ t => Jvm.Free.XT.lmul X.here K.1 rfl (hb K.2.2.2.1 hd) rfl) q
theorem land (K : Cx Z own nm bytes ml ret p s m meth c) {x y : Int64} (hd : decode bytes pc = .ok (.land, 1)) (hp : pc + 1 = pc') (q : Go p l e R s m args below meth c n0 h ce sl (mkF m pc' Ls (.long (x &&& y) :: S)) Q) : Go p l e R s m args below meth c n0 h ce sl (mkF m pc Ls (.long y :: .long x :: S)) Q := by
  subst hp; exact one (fun T L X _ t => Jvm.Free.XT.land X.here K.1 rfl (hb K.2.2.2.1 hd) rfl) q
theorem lor (K : Cx Z own nm bytes ml ret p s m meth c) {x y : Int64} (hd : decode bytes pc = .ok (.lor, 1)) (hp : pc + 1 = pc') (q : Go p l e R s m args below meth c n0 h ce sl (mkF m pc' Ls (.long (x ||| y) :: S)) Q) : Go p l e R s m args below meth c n0 h ce sl (mkF m pc Ls (.long y :: .long x :: S)) Q := by
  subst hp; exact one (fun T L X _ t => Jvm.Free.XT.lor X.here K.1 rfl (hb K.2.2.2.1 hd) rfl) q
theorem lxor (K : Cx Z own nm bytes ml ret p s m meth c) {x y : Int64} (hd : decode bytes pc = .ok (.lxor, 1)) (hp : pc + 1 = pc') (q : Go p l e R s m args below meth c n0 h ce sl (mkF m pc' Ls (.long (x ^^^ y) :: S)) Q) : Go p l e R s m args below meth c n0 h ce sl (mkF m pc Ls (.long y :: .long x :: S)) Q := by
  subst hp; exact one (fun T L X _ t => Jvm.Free.XT.lxor X.here K.1 rfl (hb K.2.2.2.1 hd) rfl) q
theorem lshl (K : Cx Z own nm bytes ml ret p s m meth c) {x : Int64} {y : Int32} (hd : decode bytes pc = .ok (.lshl, 1)) (hp : pc + 1 = pc') (q : Go p l e R s m args below meth c n0 h ce sl (mkF m pc' Ls (.long (x <<< (y.toInt64 &&& 63)) :: S)) Q) : Go p l e R s m args below meth c n0 h ce sl (mkF m pc Ls (.int y :: .long x :: S)) Q := by
  subst hp; exact one (fun T L X _ t => Jvm.Free.XT.lshl X.here K.1 rfl (hb K.2.2.2.1 hd) rfl) q
theorem lshr (K : Cx Z own nm bytes ml ret p s m meth c) {x : Int64} {y : Int32} (hd : decode bytes pc = .ok (.lshr, 1)) (hp : pc + 1 = pc') (q : Go p l e R s m args below meth c n0 h ce sl (mkF m pc' Ls (.long (x >>> (y.toInt64 &&& 63)) :: S)) Q) : Go p l e R s m args below meth c n0 h ce sl (mkF m pc Ls (.int y :: .long x :: S)) Q := by
  subst hp; exact one (fun T L X _ t => Jvm.Free.XT.lshr X.here K.1 rfl (hb K.2.2.2.1 hd) rfl) q
theorem lushr (K : Cx Z own nm bytes ml ret p s m meth c) {x : Int64} {y : Int32} (hd : decode bytes pc = .ok (.lushr, 1)) (hp : pc + 1 = pc') (q : Go p l e R s m args below meth c n0 h ce sl (mkF m pc' Ls (.long (XT.ushrL x y) :: S)) Q) : Go p l e R s m args below meth c n0 h ce sl (mkF m pc Ls (.int y :: .long x :: S)) Q := by
  subst hp; exact one (fun T L X _ t => Jvm.Free.XT.lushr X.here K.1 rfl (hb K.2.2.2.1 hd) rfl) q
theorem ldiv (K : Cx Z own nm bytes ml ret p s m meth c) {x y : Int64} (hd : decode bytes pc = .ok (.ldiv, 1)) (hy : y ≠ 0) (hp : pc + 1 = pc') (q : Go p l e R s m args below meth c n0 h ce sl (mkF m pc' Ls (.long (x / y) :: S)) Q) : Go p l e R s m args below meth c n0 h ce sl (mkF m pc Ls (.long y :: .long x :: S)) Q := by
  subst hp; exact one (fun T L X _ t => Jvm.Free.XT.ldiv X.here K.1 rfl (hb K.2.2.2.1 hd) rfl hy) q
theorem lrem (K : Cx Z own nm bytes ml ret p s m meth c) {x y : Int64} (hd : decode bytes pc = .ok (.lrem, 1)) (hy : y ≠ 0) (hp : pc + 1 = pc') (q : Go p l e R s m args below meth c n0 h ce sl (mkF m pc' Ls (.long (x % y) :: S)) Q) : Go p l e R s m args below meth c n0 h ce sl (mkF m pc Ls (.long y :: .long x :: S)) Q := by
  subst hp; rw [← lrem_mod] at q; exact one (fun T L X _ t => Jvm.Free.XT.lrem X.here K.1 rfl (hb K.2.2.2.1 hd) rfl hy) q
theorem lcmp (K : Cx Z own nm bytes ml ret p s m meth c) {x y : Int64} (hd : decode bytes pc = .ok (.lcmp, 1)) (hp : pc + 1 = pc') (q : Go p l e R s m args below meth c n0 h ce sl (mkF m pc' Ls (.int (XT.cmpL x y) :: S)) Q) : Go p l e R s m args below meth c n0 h ce sl (mkF m pc Ls (.long y :: .long x :: S)) Q := by
  subst hp; exact one (fun T L X _ t => Jvm.Free.XT.lcmp X.here K.1 rfl (hb K.2.2.2.1 hd) rfl) q
theorem i2l (K : Cx Z own nm bytes ml ret p s m meth c) {x : Int32} (hd : decode bytes pc = .ok (.i2l, 1)) (hp : pc + 1 = pc') (q : Go p l e R s m args below meth c n0 h ce sl (mkF m pc' Ls (.long x.toInt64 :: S)) Q) : Go p l e R s m args below meth c n0 h ce sl (mkF m pc Ls (.int x :: S)) Q := by
  subst hp; exact one (fun T L X _ t => Jvm.Free.XT.i2l X.here K.1 rfl (hb K.2.2.2.1 hd) rfl) q
theorem l2i (K : Cx Z own nm bytes ml ret p s m meth c) {x : Int64} (hd : decode bytes pc = .ok (.l2i, 1)) (hp : pc + 1 = pc') (q : Go p l e R s m args below meth c n0 h ce sl (mkF m pc' Ls (.int x.toInt32 :: S)) Q) : Go p l e R s m args below meth c n0 h ce sl (mkF m pc Ls (.long x :: S)) Q := by
  subst hp; exact one (fun T L X _ t => Jvm.Free.XT.l2i X.here K.1 rfl (hb K.2.2.2.1 hd) rfl) q
theorem i2c (K : Cx Z own nm bytes ml ret p s m meth c) {x : Int32} (hd : decode bytes pc = .ok (.i2c, 1)) (hp : pc + 1 = pc') (q : Go p l e R s m args below meth c n0 h ce sl (mkF m pc' Ls (.int x.toUInt32.toUInt16.toUInt32.toInt32 :: S)) Q) : Go p l e R s m args below meth c n0 h ce sl (mkF m pc Ls (.int x :: S)) Q := by
  subst hp; exact one (fun T L X _ t => Jvm.Free.XT.i2c X.here K.1 rfl (hb K.2.2.2.1 hd) rfl) q
theorem i2b (K : Cx Z own nm bytes ml ret p s m meth c) {x : Int32} (hd : decode bytes pc = .ok (.i2b, 1)) (hp : pc + 1 = pc') (q : Go p l e R s m args below meth c n0 h ce sl (mkF m pc' Ls (.int x.toInt8.toInt32 :: S)) Q) : Go p l e R s m args below meth c n0 h ce sl (mkF m pc Ls (.int x :: S)) Q := by
  subst hp; exact one (fun T L X _ t => Jvm.Free.XT.i2b X.here K.1 rfl (hb K.2.2.2.1 hd) rfl) q
theorem i2d (K : Cx Z own nm bytes ml ret p s m meth c) {x : Int32} (hd : decode bytes pc = .ok (.i2d, 1)) (hp : pc + 1 = pc') (q : Go p l e R s m args below meth c n0 h ce sl (mkF m pc' Ls (.double (FP.i2d x) :: S)) Q) : Go p l e R s m args below meth c n0 h ce sl (mkF m pc Ls (.int x :: S)) Q := by
  subst hp; exact one (fun T L X _ t => Jvm.Free.XS.i2dS X.here K.1 rfl (hb K.2.2.2.1 hd) rfl rfl) q
theorem l2d (K : Cx Z own nm bytes ml ret p s m meth c) {x : Int64} (hd : decode bytes pc = .ok (.l2d, 1)) (hp : pc + 1 = pc') (q : Go p l e R s m args below meth c n0 h ce sl (mkF m pc' Ls (.double (FP.l2d x) :: S)) Q) : Go p l e R s m args below meth c n0 h ce sl (mkF m pc Ls (.long x :: S)) Q := by
  subst hp; exact one (fun T L X _ t => Jvm.Free.XS.l2dS X.here K.1 rfl (hb K.2.2.2.1 hd) rfl rfl) q
theorem d2l (K : Cx Z own nm bytes ml ret p s m meth c) {x : UInt64} (hd : decode bytes pc = .ok (.d2l, 1)) (hp : pc + 1 = pc') (q : Go p l e R s m args below meth c n0 h ce sl (mkF m pc' Ls (.long (FP.d2l x) :: S)) Q) : Go p l e R s m args below meth c n0 h ce sl (mkF m pc Ls (.double x :: S)) Q := by
  subst hp; exact one (fun T L X _ t => Jvm.Free.XS.d2lS X.here K.1 rfl (hb K.2.2.2.1 hd) rfl rfl) q
theorem d2i (K : Cx Z own nm bytes ml ret p s m meth c) {x : UInt64} (hd : decode bytes pc = .ok (.d2i, 1)) (hp : pc + 1 = pc') (q : Go p l e R s m args below meth c n0 h ce sl (mkF m pc' Ls (.int (FP.d2i x) :: S)) Q) : Go p l e R s m args below meth c n0 h ce sl (mkF m pc Ls (.double x :: S)) Q := by
  subst hp; exact one (fun T L X _ t => Jvm.Free.XS.d2iS X.here K.1 rfl (hb K.2.2.2.1 hd) rfl rfl) q
theorem dadd (K : Cx Z own nm bytes ml ret p s m meth c) {x y : UInt64} (hd : decode bytes pc = .ok (.dadd, 1)) (hn : Jvm.Free.Fl.NoNaN64 (FP.dadd x y)) (hp : pc + 1 = pc') (q : Go p l e R s m args below meth c n0 h ce sl (mkF m pc' Ls (.double (FP.dadd x y) :: S)) Q) : Go p l e R s m args below meth c n0 h ce sl (mkF m pc Ls (.double y :: .double x :: S)) Q := by
  subst hp; exact one (fun T L X _ t => Jvm.Free.XS.daddS X.here K.1 rfl (hb K.2.2.2.1 hd) rfl hn rfl) q
theorem dsub (K : Cx Z own nm bytes ml ret p s m meth c) {x y : UInt64} (hd : decode bytes pc = .ok (.dsub, 1)) (hn : Jvm.Free.Fl.NoNaN64 (FP.dsub x y)) (hp : pc + 1 = pc') (q : Go p l e R s m args below meth c n0 h ce sl (mkF m pc' Ls (.double (FP.dsub x y) :: S)) Q) : Go p l e R s m args below meth c n0 h ce sl (mkF m pc Ls (.double y :: .double x :: S)) Q := by
  subst hp; exact one (fun T L X _ t => Jvm.Free.XS.dsubS X.here K.1 rfl (hb K.2.2.2.1 hd) rfl hn rfl) q
theorem dmul (K : Cx Z own nm bytes ml ret p s m meth c) {x y : UInt64} (hd : decode bytes pc = .ok (.dmul, 1)) (hn : Jvm.Free.Fl.NoNaN64 (FP.dmul x y)) (hp : pc + 1 = pc') (q : Go p l e R s m args below meth c n0 h ce sl (mkF m pc' Ls (.double (FP.dmul x y) :: S)) Q) : Go p l e R s m args below meth c n0 h ce sl (mkF m pc Ls (.double y :: .double x :: S)) Q := by
  subst hp; exact one (fun T L X _ t => Jvm.Free.XS.dmulS X.here K.1 rfl (hb K.2.2.2.1 hd) rfl hn rfl) q
theorem ddiv (K : Cx Z own nm bytes ml ret p s m meth c) {x y : UInt64} (hd : decode bytes pc = .ok (.ddiv, 1)) (hn : Jvm.Free.Fl.NoNaN64 (FP.ddiv x y)) (hp : pc + 1 = pc') (q : Go p l e R s m args below meth c n0 h ce sl (mkF m pc' Ls (.double (FP.ddiv x y) :: S)) Q) : Go p l e R s m args below meth c n0 h ce sl (mkF m pc Ls (.double y :: .double x :: S)) Q := by
  subst hp; exact one (fun T L X _ t => Jvm.Free.XS.ddivS X.here K.1 rfl (hb K.2.2.2.1 hd) rfl hn rfl) q
theorem dcmp (K : Cx Z own nm bytes ml ret p s m meth c) {o : CmpOp} {x y : UInt64} (hd : decode bytes pc = .ok (.dcmp o, 1)) (hp : pc + 1 = pc') (q : Go p l e R s m args below meth c n0 h ce sl (mkF m pc' Ls (.int (cmpValue (FP.dcmp x y) o) :: S)) Q) : Go p l e R s m args below meth c n0 h ce sl (mkF m pc Ls (.double y :: .double x :: S)) Q := by
  subst hp; exact one (fun T L X _ t => Jvm.Free.XS.dcmpS X.here K.1 rfl (hb K.2.2.2.1 hd) rfl rfl) q
theorem dup (K : Cx Z own nm bytes ml ret p s m meth c) {x : Value} (hd : decode bytes pc = .ok (.dup, 1)) (hc : x.category = 1) (hp : pc + 1 = pc') (q : Go p l e R s m args below meth c n0 h ce sl (mkF m pc' Ls (x :: x :: S)) Q) : Go p l e R s m args below meth c n0 h ce sl (mkF m pc Ls (x :: S)) Q := by
  subst hp; exact one (fun T L X _ t => Jvm.Free.XS.dup X.here K.1 rfl (hb K.2.2.2.1 hd) rfl hc) q
theorem pop (K : Cx Z own nm bytes ml ret p s m meth c) {x : Value} (hd : decode bytes pc = .ok (.pop, 1)) (hc : x.category = 1) (hp : pc + 1 = pc') (q : Go p l e R s m args below meth c n0 h ce sl (mkF m pc' Ls S) Q) : Go p l e R s m args below meth c n0 h ce sl (mkF m pc Ls (x :: S)) Q := by
  subst hp; exact one (fun T L X _ t => Jvm.Free.XT.pop X.here K.1 rfl (hb K.2.2.2.1 hd) rfl hc) q
theorem dupX1 (K : Cx Z own nm bytes ml ret p s m meth c) {x y : Value} (hd : decode bytes pc = .ok (.dup_x1, 1)) (hc : x.category = 1) (hc' : y.category = 1) (hp : pc + 1 = pc') (q : Go p l e R s m args below meth c n0 h ce sl (mkF m pc' Ls (x :: y :: x :: S)) Q) : Go p l e R s m args below meth c n0 h ce sl (mkF m pc Ls (x :: y :: S)) Q := by
  subst hp; exact one (fun T L X _ t => Jvm.Free.XT.dupX1 X.here K.1 rfl (hb K.2.2.2.1 hd) rfl hc hc') q
theorem dup2 (K : Cx Z own nm bytes ml ret p s m meth c) {x y : Value} (hd : decode bytes pc = .ok (.dup2, 1)) (hc : x.category = 1) (hc' : y.category = 1) (hp : pc + 1 = pc') (q : Go p l e R s m args below meth c n0 h ce sl (mkF m pc' Ls (x :: y :: x :: y :: S)) Q) : Go p l e R s m args below meth c n0 h ce sl (mkF m pc Ls (x :: y :: S)) Q := by
  subst hp; exact one (fun T L X _ t => Jvm.Free.XT.dup2 X.here K.1 rfl (hb K.2.2.2.1 hd) rfl hc hc') q
theorem dup2L (K : Cx Z own nm bytes ml ret p s m meth c) {x : Int64} (hd : decode bytes pc = .ok (.dup2, 1)) (hp : pc + 1 = pc') (q : Go p l e R s m args below meth c n0 h ce sl (mkF m pc' Ls (.long x :: .long x :: S)) Q) : Go p l e R s m args below meth c n0 h ce sl (mkF m pc Ls (.long x :: S)) Q := by
  subst hp; exact one (fun T L X _ t => Jvm.Free.XT.dup2L X.here K.1 rfl (hb K.2.2.2.1 hd) rfl) q
theorem goto' (K : Cx Z own nm bytes ml ret p s m meth c) {o : Int} (hd : decode bytes pc = .ok (.goto o, 3)) (ho : 0 ≤ (pc : Int) + o) (hp : ((pc : Int) + o).toNat = pc') (q : Go p l e R s m args below meth c n0 h ce sl (mkF m pc' Ls S) Q) : Go p l e R s m args below meth c n0 h ce sl (mkF m pc Ls S) Q :=
  one (fun T L X _ t => Jvm.Free.XS.goto X.here K.1 rfl rfl (hb K.2.2.2.1 hd) ho hp) q
theorem ifY (K : Cx Z own nm bytes ml ret p s m meth c) {cd : ClassFile.Cond} {o : Int} {x : Int32} (hd : decode bytes pc = .ok (.ifCond cd o, 3)) (hc : ifCond.holds cd x = true) (ho : 0 ≤ (pc : Int) + o) (hp : ((pc : Int) + o).toNat = pc') (q : Go p l e R s m args below meth c n0 h ce sl (mkF m pc' Ls S) Q) : Go p l e R s m args below meth c n0 h ce sl (mkF m pc Ls (.int x :: S)) Q :=
  one (fun T L X _ t => Jvm.Free.XS.ifYes X.here K.1 rfl rfl (hb K.2.2.2.1 hd) rfl hc ho hp) q
theorem ifN (K : Cx Z own nm bytes ml ret p s m meth c) {cd : ClassFile.Cond} {o : Int} {x : Int32} (hd : decode bytes pc = .ok (.ifCond cd o, 3)) (hc : ifCond.holds cd x = false) (hp : pc + 3 = pc') (q : Go p l e R s m args below meth c n0 h ce sl (mkF m pc' Ls S) Q) : Go p l e R s m args below meth c n0 h ce sl (mkF m pc Ls (.int x :: S)) Q := by
  subst hp; exact one (fun T L X _ t => Jvm.Free.XS.ifNo X.here K.1 rfl (hb K.2.2.2.1 hd) rfl hc) q
theorem icY (K : Cx Z own nm bytes ml ret p s m meth c) {cd : ClassFile.Cond} {o : Int} {x y : Int32} (hd : decode bytes pc = .ok (.if_icmp cd o, 3)) (hc : if_icmp.holds cd x y = true) (ho : 0 ≤ (pc : Int) + o) (hp : ((pc : Int) + o).toNat = pc') (q : Go p l e R s m args below meth c n0 h ce sl (mkF m pc' Ls S) Q) : Go p l e R s m args below meth c n0 h ce sl (mkF m pc Ls (.int y :: .int x :: S)) Q :=
  one (fun T L X _ t => Jvm.Free.XS.icmpYes X.here K.1 rfl rfl (hb K.2.2.2.1 hd) rfl hc ho hp) q
theorem icN (K : Cx Z own nm bytes ml ret p s m meth c) {cd : ClassFile.Cond} {o : Int} {x y : Int32} (hd : decode bytes pc = .ok (.if_icmp cd o, 3)) (hc : if_icmp.holds cd x y = false) (hp : pc + 3 = pc') (q : Go p l e R s m args below meth c n0 h ce sl (mkF m pc' Ls S) Q) : Go p l e R s m args below meth c n0 h ce sl (mkF m pc Ls (.int y :: .int x :: S)) Q := by
  subst hp; exact one (fun T L X _ t => Jvm.Free.XS.icmpNo X.here K.1 rfl (hb K.2.2.2.1 hd) rfl hc) q
theorem nullY (K : Cx Z own nm bytes ml ret p s m meth c) {o : Int} (hd : decode bytes pc = .ok (.ifnull o, 3)) (ho : 0 ≤ (pc : Int) + o) (hp : ((pc : Int) + o).toNat = pc') (q : Go p l e R s m args below meth c n0 h ce sl (mkF m pc' Ls S) Q) : Go p l e R s m args below meth c n0 h ce sl (mkF m pc Ls (.null :: S)) Q :=
  one (fun T L X _ t => Jvm.Free.XS.ifnullYes X.here K.1 rfl rfl (hb K.2.2.2.1 hd) rfl ho hp) q
theorem nullN (K : Cx Z own nm bytes ml ret p s m meth c) {o : Int} {b : Addr} (hd : decode bytes pc = .ok (.ifnull o, 3)) (hp : pc + 3 = pc') (q : Go p l e R s m args below meth c n0 h ce sl (mkF m pc' Ls S) Q) : Go p l e R s m args below meth c n0 h ce sl (mkF m pc Ls (.ref b :: S)) Q := by
  subst hp; exact one (fun T L X _ t => Jvm.Free.XS.ifnullNo X.here K.1 rfl (hb K.2.2.2.1 hd) rfl) q
theorem nonnullY (K : Cx Z own nm bytes ml ret p s m meth c) {o : Int} {b : Addr} (hd : decode bytes pc = .ok (.ifnonnull o, 3)) (ho : 0 ≤ (pc : Int) + o) (hp : ((pc : Int) + o).toNat = pc') (q : Go p l e R s m args below meth c n0 h ce sl (mkF m pc' Ls S) Q) : Go p l e R s m args below meth c n0 h ce sl (mkF m pc Ls (.ref b :: S)) Q :=
  one (fun T L X _ t => Jvm.Free.XT.ifnonnullYes X.here K.1 rfl rfl (hb K.2.2.2.1 hd) rfl ho hp) q
theorem nonnullN (K : Cx Z own nm bytes ml ret p s m meth c) {o : Int} (hd : decode bytes pc = .ok (.ifnonnull o, 3)) (hp : pc + 3 = pc') (q : Go p l e R s m args below meth c n0 h ce sl (mkF m pc' Ls S) Q) : Go p l e R s m args below meth c n0 h ce sl (mkF m pc Ls (.null :: S)) Q := by
  subst hp; exact one (fun T L X _ t => Jvm.Free.XT.ifnonnullNo X.here K.1 rfl (hb K.2.2.2.1 hd) rfl) q
theorem acY (K : Cx Z own nm bytes ml ret p s m meth c) {cd : ClassFile.ACond} {o : Int} {x y : Value} (hd : decode bytes pc = .ok (.if_acmp cd o, 3)) (hx : x.isRef = true) (hy : y.isRef = true) (hc : XT.acmp cd x y = true) (ho : 0 ≤ (pc : Int) + o) (hp : ((pc : Int) + o).toNat = pc') (q : Go p l e R s m args below meth c n0 h ce sl (mkF m pc' Ls S) Q) : Go p l e R s m args below meth c n0 h ce sl (mkF m pc Ls (y :: x :: S)) Q :=
  one (fun T L X _ t => Jvm.Free.XT.acmpYes X.here K.1 rfl rfl (hb K.2.2.2.1 hd) rfl hx hy hc ho hp) q
theorem acN (K : Cx Z own nm bytes ml ret p s m meth c) {cd : ClassFile.ACond} {o : Int} {x y : Value} (hd : decode bytes pc = .ok (.if_acmp cd o, 3)) (hx : x.isRef = true) (hy : y.isRef = true) (hc : XT.acmp cd x y = false) (hp : pc + 3 = pc') (q : Go p l e R s m args below meth c n0 h ce sl (mkF m pc' Ls S) Q) : Go p l e R s m args below meth c n0 h ce sl (mkF m pc Ls (y :: x :: S)) Q := by
  subst hp; exact one (fun T L X _ t => Jvm.Free.XT.acmpNo X.here K.1 rfl (hb K.2.2.2.1 hd) rfl hx hy hc) q
theorem ldcI (K : Cx Z own nm bytes ml ret p s m meth c) {i : Nat} {v : Int32} (w : (Cond.constant own i v).before a0 Z = true) (hd : decode bytes pc = .ok (.ldc i, 2)) (hp : pc + 2 = pc') (q : Go p l e R s m args below meth c n0 h ce sl (mkF m pc' Ls (.int v :: S)) Q) : Go p l e R s m args below meth c n0 h ce sl (mkF m pc Ls S) Q := by
  subst hp; exact one (fun T L X _ t => X.ldcI K.1 K.2.2.1 (mvT K.2.1 w) rfl (hb K.2.2.2.1 hd)) q
theorem ldcWI (K : Cx Z own nm bytes ml ret p s m meth c) {i : Nat} {v : Int32} (w : (Cond.constant own i v).before a0 Z = true) (hd : decode bytes pc = .ok (.ldc_w i, 3)) (hp : pc + 3 = pc') (q : Go p l e R s m args below meth c n0 h ce sl (mkF m pc' Ls (.int v :: S)) Q) : Go p l e R s m args below meth c n0 h ce sl (mkF m pc Ls S) Q := by
  subst hp; exact one (fun T L X _ t => X.ldcWI K.1 K.2.2.1 (mvT K.2.1 w) rfl (hb K.2.2.2.1 hd)) q
theorem ldc2J (K : Cx Z own nm bytes ml ret p s m meth c) {i : Nat} {v : Int64} (w : (Cond.constantLong own i v).before a0 Z = true) (hd : decode bytes pc = .ok (.ldc2_w i, 3)) (hp : pc + 3 = pc') (q : Go p l e R s m args below meth c n0 h ce sl (mkF m pc' Ls (.long v :: S)) Q) : Go p l e R s m args below meth c n0 h ce sl (mkF m pc Ls S) Q := by
  subst hp; exact one (fun T L X _ t => X.ldc2J K.1 K.2.2.1 (mvT K.2.1 w) rfl (hb K.2.2.2.1 hd)) q
theorem ldc2D (K : Cx Z own nm bytes ml ret p s m meth c) {i : Nat} {v : UInt64} (w : (Cond.constantDouble own i v).before a0 Z = true) (hd : decode bytes pc = .ok (.ldc2_w i, 3)) (hp : pc + 3 = pc') (q : Go p l e R s m args below meth c n0 h ce sl (mkF m pc' Ls (.double v :: S)) Q) : Go p l e R s m args below meth c n0 h ce sl (mkF m pc Ls S) Q := by
  subst hp; exact one (fun T L X _ t => X.ldc2DoubleC K.1 K.2.2.1 (mvT (args := args) K.2.1 w) (g := mkF m pc Ls S) rfl (hb K.2.2.2.1 hd) t) q
theorem getf (K : Cx Z own nm bytes ml ret p s m meth c) {i : Nat} {R0 O n d : String} {a : Addr} {v : Value} (w : (Cond.fieldLink own i R0 n d).before a0 Z = true) (via : Via Z R0 O n d) (F : Fld Z h a O n d v) (hd : decode bytes pc = .ok (.getfield i, 3)) (hp : pc + 3 = pc') (q : Go p l e R s m args below meth c n0 h ce sl (mkF m pc' Ls (v :: S)) Q) : Go p l e R s m args below meth c n0 h ce sl (mkF m pc Ls (.ref a :: S)) Q := by
  subst hp; exact oneT (fun T L X eT => getF X K.1 K.2.1 K.2.2.1 (host := "") (Or.inl w) via eT F rfl rfl (hb K.2.2.2.1 hd)) q
theorem getfN (K : Cx Z own nm bytes ml ret p s m meth c) {i : Nat} {R0 O n d host : String} {a : Addr} {v : Value} (w : (Cond.fieldLinkNest own i R0 n d host).before a0 Z = true) (via : Via Z R0 O n d) (F : Fld Z h a O n d v) (hd : decode bytes pc = .ok (.getfield i, 3)) (hp : pc + 3 = pc') (q : Go p l e R s m args below meth c n0 h ce sl (mkF m pc' Ls (v :: S)) Q) : Go p l e R s m args below meth c n0 h ce sl (mkF m pc Ls (.ref a :: S)) Q := by
  subst hp; exact oneT (fun T L X eT => getF X K.1 K.2.1 K.2.2.1 (Or.inr w) via eT F rfl rfl (hb K.2.2.2.1 hd)) q
theorem getfR (K : Cx Z own nm bytes ml ret p s m meth c) {i : Nat} {O n d : String} {a : Addr} {v : Value} (w : (Cond.fieldRef own i O n d).before a0 Z = true) (F : Fld Z h a O n d v) (hd : decode bytes pc = .ok (.getfield i, 3)) (hp : pc + 3 = pc') (q : Go p l e R s m args below meth c n0 h ce sl (mkF m pc' Ls (v :: S)) Q) : Go p l e R s m args below meth c n0 h ce sl (mkF m pc Ls (.ref a :: S)) Q := by
  subst hp
  refine one (fun T L X eT t k => ?_) q
  have hT : Z.Warmed39 T.vm := wtrans K.2.1 X.warmed
  obtain ⟨c1, k1, i1, f1, g1, g2⟩ := Cond.fieldRef_spec (s := Z.setVm T.vm) (cur := m.cls) (by show T.vm.findClass own = _; rw [X.warmed.alike.findClass]; exact K.2.2.1) (Cond.fieldRef_warmed39 hT w)
  obtain ⟨cell, cf, kf, i2, f2, h1, h2, h3, h4, -, -, h7⟩ := F
  obtain ⟨k', hi, -⟩ := State.fieldFound?_setVm (s := Z) hT.alike h2
  cases g1.symm.trans hi
  exact (X.getfieldR K.1 (g := mkF m pc Ls (.ref a :: S)) rfl g2 h3 rfl (by rw [eT]; exact h1) h4 h7 (hb K.2.2.2.1 hd) (Steps.refl _)).trans k
theorem gets (K : Cx Z own nm bytes ml ret p s m meth c) {i : Nat} {R0 O n d : String} {v : Value} (w : (Cond.fieldLink own i R0 n d).before a0 Z = true) (via : Via Z R0 O n d) (F : Sta Z h O n d v) (hd : decode bytes pc = .ok (.getstatic i, 3)) (hp : pc + 3 = pc') (q : Go p l e R s m args below meth c n0 h ce sl (mkF m pc' Ls (v :: S)) Q) : Go p l e R s m args below meth c n0 h ce sl (mkF m pc Ls S) Q := by
  subst hp; exact oneT (fun T L X eT => getS X K.1 K.2.1 K.2.2.1 (host := "") w via eT F rfl (hb K.2.2.2.1 hd)) q
theorem putf (K : Cx Z own nm bytes ml ret p s m meth c) {i kk : Nat} {R0 O n d C : String} {ty : FieldType} {a : Addr} {v old : Value} (w : (Cond.fieldLink own i R0 n d).before a0 Z = true) (via : Via Z R0 O n d) (F : Fld Z h a O n d old) (E : Exa Z h a C) (L : (Cond.lays C O n d).before a0 Z = true ∨ ((Cond.laysFinal C O n d).before a0 Z = true ∧ own = O ∧ nm = "<init>")) (wi : (Cond.instantiable C kk).before a0 Z = true) (hty : parseFieldDescriptor d = some ty) (hn : narrow ty v = v) (hf : fits ty v = true) (ga : n0 ≤ a) (hd : decode bytes pc = .ok (.putfield i, 3)) (hp : pc + 3 = pc') (q : ∀ h', Wr h h' a (Jvm.RoadKit.slotOf Z O n d) v → Go p l e R s m args below meth c n0 h' ce sl (mkF m pc' Ls S) Q) : Go p l e R s m args below meth c n0 h ce sl (mkF m pc Ls (v :: .ref a :: S)) Q := by
  subst hp
  intro T L0 X N eT
  obtain ⟨T', h', X', e', W, st⟩ := putF X K.1 K.2.1 K.2.2.1 (host := "") (Or.inl w) via eT F E (L.imp id fun ⟨a, b, c⟩ => ⟨a, b, K.2.2.2.2.2.2.2.trans c⟩) wi hty hn hf (g := mkF m pc Ls (v :: .ref a :: S)) rfl rfl (hb K.2.2.2.1 hd)
  obtain ⟨s₂, u, L', a1, r⟩ := q h' W T' _ X' (Fr.snoc X' N ga) e'
  exact ⟨s₂, u, L', st _ a1, r⟩
theorem newObj (K : Cx Z own nm bytes ml ret p s m meth c) {i n : Nat} {C : String} (w : (Cond.classLink own i C).before a0 Z = true) (wi : (Cond.instantiable C n).before a0 Z = true) (wz : (Cond.initialized C).before a0 Z = true) (hd : decode bytes pc = .ok (.new i, 3)) (hc : ce + 1 ≤ R.cells) (hl : sl + n ≤ R.slots) (hp : pc + 3 = pc') (q : ∀ h' x, x = h.size → Ext h h' → Exa Z h' x C → (∀ {O nm d : String} {ty : FieldType}, Laid Z a0 C O nm d → parseFieldDescriptor d = some ty → Fld Z h' x O nm d (defaultValue ty)) → Go p l e R s m args below meth c n0 h' (ce + 1) (sl + n) (mkF m pc' Ls (.ref x :: S)) Q) : Go p l e R s m args below meth c n0 h ce sl (mkF m pc Ls S) Q := by
  subst hp
  intro T L0 X N eT
  obtain ⟨T', h', X', e', E, A, D, -, st⟩ := newO X K.1 K.2.1 K.2.2.1 w wi wz eT (g := mkF m pc Ls S) rfl (hb K.2.2.2.1 hd) hc hl
  obtain ⟨s₂, u, L', a1, r⟩ := q h' h.size rfl E A D T' _ X' N e'
  exact ⟨s₂, u, L', st _ a1, r⟩
theorem initObj (K : Cx Z own nm bytes ml ret p s m meth c) {i : Nat} {a : Addr} (w1 : (Cond.methodLink own i Lib.objectInit).before a0 Z = true) (w2 : (Cond.instanceMethod Lib.objectInit).before a0 Z = true) (w3 : (Cond.code Lib.objectInit ⟨#[0xb1]⟩ 1 none).before a0 Z = true) (hd : decode bytes pc = .ok (.invokespecial i, 3)) (hz : Ls.size = ml) (hf : 1 ≤ R.frames) (hW : (S.map fun v => v.category).sum + 12 ≤ R.locals) (hp : pc + 3 = pc') (q : Go p l e R s m args below meth c n0 h ce sl (mkF m pc' Ls S) Q) : Go p l e R s m args below meth c n0 h ce sl (mkF m pc Ls (.ref a :: S)) Q := by
  subst hp; exact oneT (fun T L X eT => initO X K.1 K.2.1 K.2.2.1 w1 w2 w3 eT rfl (hz.trans K.2.2.2.2.1.symm) rfl (hb K.2.2.2.1 hd) hf (W := (S.map fun v => v.category).sum) (by show 2 * 0 + _ ≤ _; omega) hW) q
/-- a private method's own 'selects' -/
theorem priv_sel {s : State} {args : Array Value} {y : MethodName} {kk : Nat} (wi : (Cond.instantiable y.cls kk).before args s = true) (hpriv : s.PrivateAt y) (hinst : (Cond.instanceMethod y).before args s = true) (hy : y.cls ≠ "java/lang/invoke/MethodHandle" ∧ y.cls ≠ "java/lang/invoke/VarHandle") : (Cond.selects y.cls y y).before args s = true := by
  obtain ⟨c2, k2, i1, i2, i3, i4⟩ := Cond.instantiable_spec wi
  exact selects_self_of_private i1 i2 (Bool.or_eq_false_iff.mp i4.1).1 hpriv hinst hy
/-! calls -/
theorem back {W len : Nat} {y : MethodName} {by' : ByteArray} {ml' : Nat} {ret' : Option FieldType} {rm : Room} {as' : Array Value} {Q' : Option Value → Heap → Prop} (K : Cx Z own nm bytes ml ret p s m meth c) (C : Ctr l Z y by' ml' ret' [] rm n0 as' h Q') (wc : (Cond.code y by' ml' ret').before a0 Z = true) (wz : (Cond.initialized y.cls).before a0 Z = true) (hf : rm.frames + 1 ≤ R.frames) (hl : W + (ml' + 11) + rm.locals ≤ R.locals) :
    Back l R p e below s args y len W (fun A a => a = as' ∧ A.U.heap = h ∧ A.cells + rm.cells ≤ R.cells ∧ A.slots + rm.slots ≤ R.slots) (fun A _ v B => ∃ L, (Q' v B.U.heap ∧ Fr n0 L) ∧ B.locs = A.locs ++ L ∧ B.cells = A.cells + rm.cells ∧ B.slots = A.slots + rm.slots) :=
  backOf (Q := fun v h L => Q' v h ∧ Fr n0 L) C K.2.1 wc wz hf hl
theorem callStatic (K : Cx Z own nm bytes ml ret p s m meth c) {i : Nat} {y : MethodName} {by' : ByteArray} {ml' : Nat} {ret' : Option FieldType} {rm : Room} {Q' : Option Value → Heap → Prop}  {argsL : List Value} (w1 : (Cond.methodLink own i y).before a0 Z = true) (w2 : (Cond.static y).before a0 Z = true) (wz : (Cond.initialized y.cls).before a0 Z = true) (wc : (Cond.code y by' ml' ret').before a0 Z = true) (hy : y.cls ≠ "java/lang/invoke/MethodHandle" ∧ y.cls ≠ "java/lang/invoke/VarHandle") (Cc : Ctr l Z y by' ml' ret' [] rm n0 argsL.toArray h Q') (hlen : ∀ sig, parseMethodDescriptor y.desc = some sig → argsL.length = sig.parameters.length) (hd : decode bytes pc = .ok (.invokestatic i, 3)) (hz : Ls.size = ml) (hf : rm.frames + 1 ≤ R.frames) (hW : (S.map fun v => v.category).sum + (ml' + 11) + rm.locals ≤ R.locals) (hc : ce + rm.cells ≤ R.cells) (hsl : sl + rm.slots ≤ R.slots) {st : List Value} (hst : st = (argsL.reverse ++ S)) (hp : pc + 3 = pc') (q : ∀ v h', Q' v h' → Go p l e R s m args below meth c n0 h' (ce + rm.cells) (sl + rm.slots) (mkF m pc' Ls (v.toList ++ S)) Q) : Go p l e R s m args below meth c n0 h ce sl (mkF m pc Ls st) Q := by
  subst hp hst
  intro T L0 X N eT
  obtain ⟨v, _, ⟨T', L1, k1, n1⟩, -, X', ⟨Lc, hQ, l', y', z'⟩, st'⟩ := Jvm.LawKit.callS X K.1 K.2.2.1 (mvT K.2.1 w1) (mvT K.2.1 w2) (mvT K.2.1 wz) (mvT K.2.1 wc) hy (back (W := (S.map fun v => v.category).sum) K Cc wc wz hf hW) (g := mkF m pc Ls (argsL.reverse ++ S)) rfl (hz.trans K.2.2.2.2.1.symm) (argsL := argsL) (rest := S) hlen rfl (by show 2 * 0 + _ ≤ _; omega) (hb K.2.2.2.1 hd) (fun _ _ => ⟨rfl, eT, hc, hsl⟩)
  dsimp only [Pt.U, Pt.locs, Pt.cells, Pt.slots] at X' l' y' z' st'
  subst l' y' z'
  obtain ⟨s₂, u, L', a1, r⟩ := q v _ hQ.1 T' _ X' (Fr.app N hQ.2) rfl
  exact ⟨s₂, u, L', st' _ a1, r⟩
theorem callInit (K : Cx Z own nm bytes ml ret p s m meth c) {i : Nat} {y : MethodName} {by' : ByteArray} {ml' : Nat} {ret' : Option FieldType} {rm : Room} {Q' : Option Value → Heap → Prop} {b : Addr} {argsL : List Value} (hy1 : y.name = "<init>") (w1 : (Cond.methodLink own i y).before a0 Z = true) (w2 : (Cond.instanceMethod y).before a0 Z = true) (wz : (Cond.initialized y.cls).before a0 Z = true) (wc : (Cond.code y by' ml' none).before a0 Z = true) (hr : ret' = none) (hy : y.cls ≠ "java/lang/invoke/MethodHandle" ∧ y.cls ≠ "java/lang/invoke/VarHandle") (Cc : Ctr l Z y by' ml' ret' [] rm n0 (.ref b :: argsL).toArray h Q') (hlen : ∀ sig, parseMethodDescriptor y.desc = some sig → argsL.length = sig.parameters.length) (hd : decode bytes pc = .ok (.invokespecial i, 3)) (hz : Ls.size = ml) (hf : rm.frames + 1 ≤ R.frames) (hW : (S.map fun v => v.category).sum + (ml' + 11) + rm.locals ≤ R.locals) (hc : ce + rm.cells ≤ R.cells) (hsl : sl + rm.slots ≤ R.slots) {st : List Value} (hst : st = (argsL.reverse ++ .ref b :: S)) (hp : pc + 3 = pc') (q : ∀ v h', Q' v h' → Go p l e R s m args below meth c n0 h' (ce + rm.cells) (sl + rm.slots) (mkF m pc' Ls (v.toList ++ S)) Q) : Go p l e R s m args below meth c n0 h ce sl (mkF m pc Ls st) Q := by
  subst hp hst
  intro T L0 X N eT
  subst hr
  obtain ⟨v, _, ⟨T', L1, k1, n1⟩, -, X', ⟨Lc, hQ, l', y', z'⟩, st'⟩ := X.specialBack K.1 hy1 K.2.2.1 (mvT K.2.1 w1) (mvT K.2.1 w2) (mvT K.2.1 wc) hy (back (W := (S.map fun v => v.category).sum) K Cc wc wz hf hW) (g := mkF m pc Ls (argsL.reverse ++ .ref b :: S)) rfl (hz.trans K.2.2.2.2.1.symm) (Steps.refl _) (a := b) (argsL := argsL) (rest := S) hlen rfl (by show 2 * 0 + _ ≤ _; omega) (hb K.2.2.2.1 hd) (fun _ _ => ⟨rfl, eT, hc, hsl⟩)
  dsimp only [Pt.U, Pt.locs, Pt.cells, Pt.slots] at X' l' y' z' st'
  subst l' y' z'
  obtain ⟨s₂, u, L', a1, r⟩ := q v _ hQ.1 T' _ X' (Fr.app N hQ.2) rfl
  exact ⟨s₂, u, L', st'.trans a1, r⟩
theorem callInitNest (K : Cx Z own nm bytes ml ret p s m meth c) {i : Nat} {y : MethodName} {by' : ByteArray} {ml' : Nat} {ret' : Option FieldType} {rm : Room} {Q' : Option Value → Heap → Prop} {b : Addr} {argsL : List Value} {host : String} (hy1 : y.name = "<init>") (w1 : (Cond.methodLinkNest own i y host).before a0 Z = true) (w2 : (Cond.instanceMethod y).before a0 Z = true) (wz : (Cond.initialized y.cls).before a0 Z = true) (wc : (Cond.code y by' ml' none).before a0 Z = true) (hr : ret' = none) (hy : y.cls ≠ "java/lang/invoke/MethodHandle" ∧ y.cls ≠ "java/lang/invoke/VarHandle") (Cc : Ctr l Z y by' ml' ret' [] rm n0 (.ref b :: argsL).toArray h Q') (hlen : ∀ sig, parseMethodDescriptor y.desc = some sig → argsL.length = sig.parameters.length) (hd : decode bytes pc = .ok (.invokespecial i, 3)) (hz : Ls.size = ml) (hf : rm.frames + 1 ≤ R.frames) (hW : (S.map fun v => v.category).sum + (ml' + 11) + rm.locals ≤ R.locals) (hc : ce + rm.cells ≤ R.cells) (hsl : sl + rm.slots ≤ R.slots) {st : List Value} (hst : st = (argsL.reverse ++ .ref b :: S)) (hp : pc + 3 = pc') (q : ∀ v h', Q' v h' → Go p l e R s m args below meth c n0 h' (ce + rm.cells) (sl + rm.slots) (mkF m pc' Ls (v.toList ++ S)) Q) : Go p l e R s m args below meth c n0 h ce sl (mkF m pc Ls st) Q := by
  subst hp hst
  intro T L0 X N eT
  subst hr
  obtain ⟨v, _, ⟨T', L1, k1, n1⟩, -, X', ⟨Lc, hQ, l', y', z'⟩, st'⟩ := X.specialBackNest K.1 hy1 K.2.2.1 (Cond.methodLinkNest_wide K.2.1 w1 :) (mvT K.2.1 w2) (mvT K.2.1 wc) hy (back (W := (S.map fun v => v.category).sum) K Cc wc wz hf hW) (g := mkF m pc Ls (argsL.reverse ++ .ref b :: S)) rfl (hz.trans K.2.2.2.2.1.symm) (Steps.refl _) (a := b) (argsL := argsL) (rest := S) hlen rfl (by show 2 * 0 + _ ≤ _; omega) (hb K.2.2.2.1 hd) (fun _ _ => ⟨rfl, eT, hc, hsl⟩)
  dsimp only [Pt.U, Pt.locs, Pt.cells, Pt.slots] at X' l' y' z' st'
  subst l' y' z'
  obtain ⟨s₂, u, L', a1, r⟩ := q v _ hQ.1 T' _ X' (Fr.app N hQ.2) rfl
  exact ⟨s₂, u, L', st'.trans a1, r⟩
theorem callVirt (K : Cx Z own nm bytes ml ret p s m meth c) {i : Nat} {y : MethodName} {by' : ByteArray} {ml' : Nat} {ret' : Option FieldType} {rm : Room} {Q' : Option Value → Heap → Prop} {b : Addr} {argsL : List Value} {C : String} (w1 : (Cond.methodLink own i y).before a0 Z = true) (w2 : (Cond.declares y).before a0 Z = true) (w3 : (Cond.selects C y y).before a0 Z = true) (w4 : (Cond.instanceMethod y).before a0 Z = true) (wz : (Cond.initialized y.cls).before a0 Z = true) (wc : (Cond.code y by' ml' ret').before a0 Z = true) (hy : y.cls ≠ "java/lang/invoke/MethodHandle" ∧ y.cls ≠ "java/lang/invoke/VarHandle") (E : Exa Z h b C) (Cc : Ctr l Z y by' ml' ret' [] rm n0 (.ref b :: argsL).toArray h Q') (hlen : ∀ sig, parseMethodDescriptor y.desc = some sig → argsL.length = sig.parameters.length) (hd : decode bytes pc = .ok (.invokevirtual i, 3)) (hz : Ls.size = ml) (hf : rm.frames + 1 ≤ R.frames) (hW : (S.map fun v => v.category).sum + (ml' + 11) + rm.locals ≤ R.locals) (hc : ce + rm.cells ≤ R.cells) (hsl : sl + rm.slots ≤ R.slots) {st : List Value} (hst : st = (argsL.reverse ++ .ref b :: S)) (hp : pc + 3 = pc') (q : ∀ v h', Q' v h' → Go p l e R s m args below meth c n0 h' (ce + rm.cells) (sl + rm.slots) (mkF m pc' Ls (v.toList ++ S)) Q) : Go p l e R s m args below meth c n0 h ce sl (mkF m pc Ls st) Q := by
  subst hp hst
  intro T L0 X N eT
  obtain ⟨cq, kq, qa, qb, qc⟩ := isOf K.2.1 eT E
  obtain ⟨v, _, ⟨T', L1, k1, n1⟩, -, X', ⟨Lc, hQ, l', y', z'⟩, st'⟩ := X.virtualBack K.1 (y := y) (z := y) K.2.2.1 (mvT K.2.1 w1) (mvT K.2.1 w2) (notFace_of_selects (args := #[]) (mvT K.2.1 w3)) (mvT K.2.1 w3) (mvT K.2.1 w4) hy (back (W := (S.map fun v => v.category).sum) K Cc wc wz hf hW) qa qc (g := mkF m pc Ls (argsL.reverse ++ .ref b :: S)) rfl (hz.trans K.2.2.2.2.1.symm) (Steps.refl _) (argsL := argsL) (rest := S) hlen rfl (by show 2 * 0 + _ ≤ _; omega) (hb K.2.2.2.1 hd) (fun _ _ => ⟨rfl, eT, hc, hsl⟩)
  dsimp only [Pt.U, Pt.locs, Pt.cells, Pt.slots] at X' l' y' z' st'
  subst l' y' z'
  obtain ⟨s₂, u, L', a1, r⟩ := q v _ hQ.1 T' _ X' (Fr.app N hQ.2) rfl
  exact ⟨s₂, u, L', st'.trans a1, r⟩
theorem callFace (K : Cx Z own nm bytes ml ret p s m meth c) {i cnt : Nat} {y : MethodName} {by' : ByteArray} {ml' : Nat} {ret' : Option FieldType} {rm : Room} {Q' : Option Value → Heap → Prop} {b : Addr} {argsL : List Value} {z : MethodName} {C : String} (w1 : (Cond.methodLink own i y).before a0 Z = true) (w2 : (Cond.declares y).before a0 Z = true) (w5 : (Cond.interfaceMethod y.cls y.cls y.name y.desc).before a0 Z = true) (k5 : ((Cond.interfaceMethod y.cls y.cls y.name y.desc).onTables && (Cond.interfaceMethod y.cls y.cls y.name y.desc).keepsFace) = true) (w3 : (Cond.selects C y z).before a0 Z = true) (w4 : (Cond.instanceMethod z).before a0 Z = true) (w6 : (Cond.publicMethod z).before a0 Z = true) (w7 : (Cond.unhidden C y.name y.desc).before a0 Z = true) (w8 : (Cond.castable C y.cls).before a0 Z = true) (wz : (Cond.initialized z.cls).before a0 Z = true) (wc : (Cond.code z by' ml' ret').before a0 Z = true) (hy : y.cls ≠ "java/lang/invoke/MethodHandle" ∧ y.cls ≠ "java/lang/invoke/VarHandle") (E : Exa Z h b C) (Cc : Ctr l Z z by' ml' ret' [] rm n0 (.ref b :: argsL).toArray h Q') (hlen : ∀ sig, parseMethodDescriptor y.desc = some sig → argsL.length = sig.parameters.length) (hd : decode bytes pc = .ok (.invokeinterface i cnt, 5)) (hz : Ls.size = ml) (hf : rm.frames + 1 ≤ R.frames) (hW : (S.map fun v => v.category).sum + (ml' + 11) + rm.locals ≤ R.locals) (hc : ce + rm.cells ≤ R.cells) (hsl : sl + rm.slots ≤ R.slots) {st : List Value} (hst : st = (argsL.reverse ++ .ref b :: S)) (hp : pc + 5 = pc') (q : ∀ v h', Q' v h' → Go p l e R s m args below meth c n0 h' (ce + rm.cells) (sl + rm.slots) (mkF m pc' Ls (v.toList ++ S)) Q) : Go p l e R s m args below meth c n0 h ce sl (mkF m pc Ls st) Q := by
  subst hp hst
  intro T L0 X N eT
  obtain ⟨cq, kq, qa, qb, qc⟩ := isOf K.2.1 eT E
  obtain ⟨v, _, ⟨T', L1, k1, n1⟩, -, X', ⟨Lc, hQ, l', y', z'⟩, st'⟩ := X.interfaceBack K.1 (xi := y) (y := z) K.2.2.1 (mvT K.2.1 w1) (mvT K.2.1 w2) (mvT K.2.1 w5 k5) (mvT K.2.1 w3) (mvT K.2.1 w4) (mvT K.2.1 w6) (mvT K.2.1 w7) (mvT K.2.1 w8) hy (back (W := (S.map fun v => v.category).sum) K Cc wc wz hf hW) qa qb qc (g := mkF m pc Ls (argsL.reverse ++ .ref b :: S)) rfl (hz.trans K.2.2.2.2.1.symm) (Steps.refl _) (argsL := argsL) (rest := S) hlen rfl (by show 2 * 0 + _ ≤ _; omega) (hb K.2.2.2.1 hd) (fun _ _ => ⟨rfl, eT, hc, hsl⟩)
  dsimp only [Pt.U, Pt.locs, Pt.cells, Pt.slots] at X' l' y' z' st'
  subst l' y' z'
  obtain ⟨s₂, u, L', a1, r⟩ := q v _ hQ.1 T' _ X' (Fr.app N hQ.2) rfl
  exact ⟨s₂, u, L', st'.trans a1, r⟩
theorem callPriv (K : Cx Z own nm bytes ml ret p s m meth c) {i : Nat} {y : MethodName} {by' : ByteArray} {ml' : Nat} {ret' : Option FieldType} {rm : Room} {Q' : Option Value → Heap → Prop} {b : Addr} {argsL : List Value} {C : String} {kk : Nat} (w1 : (Cond.methodLink own i y).before a0 Z = true) (w2 : (Cond.instanceMethod y).before a0 Z = true) (w3 : (Cond.privateMethod y).before a0 Z = true) (w5 : (Cond.instantiable y.cls kk).before a0 Z = true) (wz : (Cond.initialized y.cls).before a0 Z = true) (wc : (Cond.code y by' ml' ret').before a0 Z = true) (hy : y.cls ≠ "java/lang/invoke/MethodHandle" ∧ y.cls ≠ "java/lang/invoke/VarHandle") (E : Exa Z h b C) (Cc : Ctr l Z y by' ml' ret' [] rm n0 (.ref b :: argsL).toArray h Q') (hlen : ∀ sig, parseMethodDescriptor y.desc = some sig → argsL.length = sig.parameters.length) (hd : decode bytes pc = .ok (.invokevirtual i, 3)) (hz : Ls.size = ml) (hf : rm.frames + 1 ≤ R.frames) (hW : (S.map fun v => v.category).sum + (ml' + 11) + rm.locals ≤ R.locals) (hc : ce + rm.cells ≤ R.cells) (hsl : sl + rm.slots ≤ R.slots) {st : List Value} (hst : st = (argsL.reverse ++ .ref b :: S)) (hp : pc + 3 = pc') (q : ∀ v h', Q' v h' → Go p l e R s m args below meth c n0 h' (ce + rm.cells) (sl + rm.slots) (mkF m pc' Ls (v.toList ++ S)) Q) : Go p l e R s m args below meth c n0 h ce sl (mkF m pc Ls st) Q := by
  subst hp hst
  intro T L0 X N eT
  obtain ⟨cell, kc, f1, f2, f3, f4, -⟩ := E
  have hpr : s.PrivateAt y := Cond.privateMethod_at (mvP K.2.1 w3 (args := #[]))
  obtain ⟨v, _, ⟨T', L1, k1, n1⟩, -, X', ⟨Lc, hQ, l', y', z'⟩, st'⟩ := X.privateBack K.1 (y := y) K.2.2.1 (mvT K.2.1 w1) (mvT K.2.1 w2) (priv_sel (mvT K.2.1 w5) hpr (mvT K.2.1 w2) hy) hpr (mvT K.2.1 wc) hy (back (W := (S.map fun v => v.category).sum) K Cc wc wz hf hW) (g := mkF m pc Ls (argsL.reverse ++ .ref b :: S)) rfl (hz.trans K.2.2.2.2.1.symm) (Steps.refl _) (a := b) (by rw [eT]; exact f1) (fun q hq => by rw [hq] at f4; cases f4) (argsL := argsL) (rest := S) hlen rfl (by show 2 * 0 + _ ≤ _; omega) (hb K.2.2.2.1 hd) (fun _ _ => ⟨rfl, eT, hc, hsl⟩)
  dsimp only [Pt.U, Pt.locs, Pt.cells, Pt.slots] at X' l' y' z' st'
  subst l' y' z'
  obtain ⟨s₂, u, L', a1, r⟩ := q v _ hQ.1 T' _ X' (Fr.app N hQ.2) rfl
  exact ⟨s₂, u, L', st'.trans a1, r⟩
theorem retW (K : Cx Z own nm bytes ml ret p s m meth c) {t : FieldType} {w : Value} {i : Instr} (hi : (i = .ireturn ∧ (t = .int ∨ t = .boolean ∨ t = .byte ∨ t = .char ∨ t = .short) ∧ ∃ z, w = .int z) ∨ (i = .lreturn ∧ t = .long ∧ ∃ z, w = .long z) ∨ (i = .dreturn ∧ t = .double ∧ ∃ z, w = .double z) ∨ (i = .freturn ∧ t = .float ∧ ∃ z, w = .float z) ∨ (i = .areturn ∧ t.isReference = true ∧ w.isRef = true)) (hr : ret = some t) (hn : narrow t w = w) (hd : decode bytes pc = .ok (i, 1)) (hc : ce ≤ R.cells) (hsl : sl ≤ R.slots) (q : Q (some w) h) : Go p l e R s m args below meth c n0 h ce sl (mkF m pc Ls (w :: S)) Q := by
  intro T L0 X N eT
  obtain ⟨fs, hl, hrun, hended, hW, hsame⟩ := X.leave (v := some w) (fun q => by rw [K.2.2.2.2.2.1, hr] at q; cases q) K.2.2.2.2.2.2.1
  exact ⟨_, some w, L0, retOut X K.1 (K.2.2.2.2.2.1.trans hr) hn hi (hb K.2.2.2.1 hd) hl, hrun, hended, N, eT ▸ q, ⟨_, rfl⟩, hW, hsame.mono hc hsl⟩
theorem retV (K : Cx Z own nm bytes ml ret p s m meth c) (hr : ret = none) (hd : decode bytes pc = .ok (.return_, 1)) (hc : ce ≤ R.cells) (hsl : sl ≤ R.slots) (q : Q none h) : Go p l e R s m args below meth c n0 h ce sl (mkF m pc Ls []) Q := by
  intro T L0 X N eT
  obtain ⟨fs, hl, hrun, hended, hW, hsame⟩ := X.leave (v := none) (fun _ => rfl) K.2.2.2.2.2.2.1
  exact ⟨_, none, L0, X.returnOut K.1 (K.2.2.2.2.2.1.trans hr) (hb K.2.2.2.1 hd) hl, hrun, hended, N, eT ▸ q, ⟨_, rfl⟩, hW, hsame.mono hc hsl⟩
theorem retI (K : Cx Z own nm bytes ml ret p s m meth c) {z : Int32} (hr : ret = some .int) (hd : decode bytes pc = .ok (.ireturn, 1)) (hc : ce ≤ R.cells) (hsl : sl ≤ R.slots) (q : Q (some (.int z)) h) : Go p l e R s m args below meth c n0 h ce sl (mkF m pc Ls (.int z :: S)) Q := retW K (by exact Or.inl ⟨rfl, Or.inl rfl, _, rfl⟩) hr rfl hd hc hsl q
theorem retL (K : Cx Z own nm bytes ml ret p s m meth c) {z : Int64} (hr : ret = some .long) (hd : decode bytes pc = .ok (.lreturn, 1)) (hc : ce ≤ R.cells) (hsl : sl ≤ R.slots) (q : Q (some (.long z)) h) : Go p l e R s m args below meth c n0 h ce sl (mkF m pc Ls (.long z :: S)) Q := retW K (by exact Or.inr (Or.inl ⟨rfl, rfl, _, rfl⟩)) hr rfl hd hc hsl q
theorem retD (K : Cx Z own nm bytes ml ret p s m meth c) {z : UInt64} (hr : ret = some .double) (hd : decode bytes pc = .ok (.dreturn, 1)) (hc : ce ≤ R.cells) (hsl : sl ≤ R.slots) (q : Q (some (.double z)) h) : Go p l e R s m args below meth c n0 h ce sl (mkF m pc Ls (.double z :: S)) Q := retW K (by exact Or.inr (Or.inr (Or.inl ⟨rfl, rfl, _, rfl⟩))) hr rfl hd hc hsl q
theorem retA (K : Cx Z own nm bytes ml ret p s m meth c) {t : FieldType} {w : Value} (hr : ret = some t) (ht : t.isReference = true) (hw : w.isRef = true) (hd : decode bytes pc = .ok (.areturn, 1)) (hc : ce ≤ R.cells) (hsl : sl ≤ R.slots) (q : Q (some w) h) : Go p l e R s m args below meth c n0 h ce sl (mkF m pc Ls (w :: S)) Q := retW K (Or.inr (Or.inr (Or.inr (Or.inr ⟨rfl, ht, hw⟩)))) hr (by cases t <;> first | rfl | exact absurd ht (by decide)) hd hc hsl q
theorem retB (K : Cx Z own nm bytes ml ret p s m meth c) {t : FieldType} {z : Int32} (hr : ret = some t) (ht : t = .boolean ∨ t = .byte ∨ t = .char ∨ t = .short) (hd : decode bytes pc = .ok (.ireturn, 1)) (hc : ce ≤ R.cells) (hsl : sl ≤ R.slots) (q : Q (some (.int (nar t z))) h) : Go p l e R s m args below meth c n0 h ce sl (mkF m pc Ls (.int z :: S)) Q := by
  intro T L0 X N eT
  obtain ⟨fs, hl, hrun, hended, hW, hsame⟩ := X.leave (v := some (.int (nar t z))) (fun q => by rw [K.2.2.2.2.2.1, hr] at q; cases q) K.2.2.2.2.2.2.1
  exact ⟨_, some (.int (nar t z)), L0, retN X K.1 (t := t) (K.2.2.2.2.2.1.trans hr) ht (hb K.2.2.2.1 hd) hl, hrun, hended, N, eT ▸ q, ⟨_, rfl⟩, hW, hsame.mono hc hsl⟩
end Walk
/-! arrays -/
def Vec (Z : State) (h : Heap) (a : Addr) (ty : FieldType) (xs : List Value) : Prop := ∃ cl : Cell, Arr Z h a cl ty ∧ cl.slots.toList = xs ∧ xs.length < 2147483648
/-- an array of references, with what may lie in it -/
def VecR (Z : State) (h : Heap) (a : Addr) (C : String) (xs : List Value) : Prop := ∃ cl : Cell, Arr Z h a cl (.object C) ∧ cl.slots.toList = xs ∧ xs.length < 2147483648 ∧ Ovr Z cl.cls C
section Vecs
variable {Z : State} {h h' : Heap} {a b : Addr} {ty : FieldType} {xs : List Value} {v : Value} {sl : Nat} {ws : List Addr} {C : String}
theorem Vec.lt (F : Vec Z h a ty xs) : a < h.size := by obtain ⟨c, A, -⟩ := F; exact A.lt
theorem Vec.ext (F : Vec Z h a ty xs) (E : Ext h h') : Vec Z h' a ty xs := by obtain ⟨c, A, r⟩ := F; exact ⟨c, A.ext E, r⟩
theorem Vec.other (F : Vec Z h b ty xs) (W : Wr h h' a sl v) (q : b ≠ a) : Vec Z h' b ty xs := by obtain ⟨c, A, r⟩ := F; exact ⟨c, A.other W q, r⟩
theorem Vec.keep (F : Vec Z h a ty xs) (K : Keep h h' ws) (q : a ∉ ws) : Vec Z h' a ty xs := by obtain ⟨c, A, r⟩ := F; exact ⟨c, ⟨K.2.1 a c A.1 q, A.2⟩, r⟩
theorem Vec.set (F : Vec Z h a ty xs) {i : Nat} (W : Wr h h' a i v) : Vec Z h' a ty (xs.set i v) := by
  obtain ⟨c, A, rfl, r⟩ := F
  exact ⟨_, A.same W, by simp [Cell.setSlot], by simpa using r⟩
theorem Vec.len (F : Vec Z h a ty xs) : xs.length < 2147483648 := by obtain ⟨c, A, rfl, r⟩ := F; exact r
theorem VecR.lt (F : VecR Z h a C xs) : a < h.size := by obtain ⟨c, A, -⟩ := F; exact A.lt
theorem VecR.ext (F : VecR Z h a C xs) (E : Ext h h') : VecR Z h' a C xs := by obtain ⟨c, A, r⟩ := F; exact ⟨c, A.ext E, r⟩
theorem VecR.other (F : VecR Z h b C xs) (W : Wr h h' a sl v) (q : b ≠ a) : VecR Z h' b C xs := by obtain ⟨c, A, r⟩ := F; exact ⟨c, A.other W q, r⟩
theorem VecR.keep (F : VecR Z h a C xs) (K : Keep h h' ws) (q : a ∉ ws) : VecR Z h' a C xs := by obtain ⟨c, A, r⟩ := F; exact ⟨c, ⟨K.2.1 a c A.1 q, A.2⟩, r⟩
theorem VecR.vec (F : VecR Z h a C xs) : Vec Z h a (.object C) xs := by obtain ⟨c, A, r1, r2, -⟩ := F; exact ⟨c, A, r1, r2⟩
theorem VecR.set (F : VecR Z h a C xs) {i : Nat} (W : Wr h h' a i v) : VecR Z h' a C (xs.set i v) := by
  obtain ⟨c, A, rfl, r, o⟩ := F
  exact ⟨_, A.same W, by simp [Cell.setSlot], by simpa using r, o⟩
theorem clamp {j : Int32} {i : Nat} (hj : j.toInt = i) : j.toNatClampNeg = i ∧ ¬ j < 0 := by
  refine ⟨by simp [Int32.toNatClampNeg, hj], ?_⟩
  rw [Int32.lt_iff_toInt_lt, hj]; simp only [Int32.reduceToInt]; omega
end Vecs
def DV (Z : State) (h : Heap) (a : Addr) (xs : List UInt64) : Prop := Vec Z h a .double (xs.map Value.double)
theorem DV.lt {Z : State} {h : Heap} {a : Addr} {xs : List UInt64} (F : DV Z h a xs) : a < h.size := Vec.lt F
theorem DV.ext {Z : State} {h h' : Heap} {a : Addr} {xs : List UInt64} (F : DV Z h a xs) (E : Ext h h') : DV Z h' a xs := Vec.ext F E
theorem DV.other {Z : State} {h h' : Heap} {a b : Addr} {xs : List UInt64} {sl : Nat} {v : Value} (F : DV Z h b xs) (W : Wr h h' a sl v) (q : b ≠ a) : DV Z h' b xs := Vec.other F W q
theorem DV.keep {Z : State} {h h' : Heap} {a : Addr} {xs : List UInt64} {ws : List Addr} (F : DV Z h a xs) (K : Keep h h' ws) (q : a ∉ ws) : DV Z h' a xs := Vec.keep F K q
theorem DV.set {Z : State} {h h' : Heap} {a : Addr} {xs : List UInt64} {i : Nat} {x : UInt64} (F : DV Z h a xs) (W : Wr h h' a i (Value.double x)) : DV Z h' a (xs.set i x) := by
  have q := Vec.set F W
  rwa [← List.map_set] at q
def IV (Z : State) (h : Heap) (a : Addr) (xs : List Int32) : Prop := Vec Z h a .int (xs.map Value.int)
theorem IV.lt {Z : State} {h : Heap} {a : Addr} {xs : List Int32} (F : IV Z h a xs) : a < h.size := Vec.lt F
theorem IV.ext {Z : State} {h h' : Heap} {a : Addr} {xs : List Int32} (F : IV Z h a xs) (E : Ext h h') : IV Z h' a xs := Vec.ext F E
theorem IV.other {Z : State} {h h' : Heap} {a b : Addr} {xs : List Int32} {sl : Nat} {v : Value} (F : IV Z h b xs) (W : Wr h h' a sl v) (q : b ≠ a) : IV Z h' b xs := Vec.other F W q
theorem IV.keep {Z : State} {h h' : Heap} {a : Addr} {xs : List Int32} {ws : List Addr} (F : IV Z h a xs) (K : Keep h h' ws) (q : a ∉ ws) : IV Z h' a xs := Vec.keep F K q
theorem IV.set {Z : State} {h h' : Heap} {a : Addr} {xs : List Int32} {i : Nat} {x : Int32} (F : IV Z h a xs) (W : Wr h h' a i (Value.int x)) : IV Z h' a (xs.set i x) := by
  have q := Vec.set F W
  rwa [← List.map_set] at q
def JV (Z : State) (h : Heap) (a : Addr) (xs : List Int64) : Prop := Vec Z h a .long (xs.map Value.long)
theorem JV.lt {Z : State} {h : Heap} {a : Addr} {xs : List Int64} (F : JV Z h a xs) : a < h.size := Vec.lt F
theorem JV.ext {Z : State} {h h' : Heap} {a : Addr} {xs : List Int64} (F : JV Z h a xs) (E : Ext h h') : JV Z h' a xs := Vec.ext F E
theorem JV.other {Z : State} {h h' : Heap} {a b : Addr} {xs : List Int64} {sl : Nat} {v : Value} (F : JV Z h b xs) (W : Wr h h' a sl v) (q : b ≠ a) : JV Z h' b xs := Vec.other F W q
theorem JV.keep {Z : State} {h h' : Heap} {a : Addr} {xs : List Int64} {ws : List Addr} (F : JV Z h a xs) (K : Keep h h' ws) (q : a ∉ ws) : JV Z h' a xs := Vec.keep F K q
theorem JV.set {Z : State} {h h' : Heap} {a : Addr} {xs : List Int64} {i : Nat} {x : Int64} (F : JV Z h a xs) (W : Wr h h' a i (Value.long x)) : JV Z h' a (xs.set i x) := by
  have q := Vec.set F W
  rwa [← List.map_set] at q
def ZV (Z : State) (h : Heap) (a : Addr) (xs : List Int32) : Prop := Vec Z h a .boolean (xs.map Value.int)
theorem ZV.lt {Z : State} {h : Heap} {a : Addr} {xs : List Int32} (F : ZV Z h a xs) : a < h.size := Vec.lt F
theorem ZV.ext {Z : State} {h h' : Heap} {a : Addr} {xs : List Int32} (F : ZV Z h a xs) (E : Ext h h') : ZV Z h' a xs := Vec.ext F E
theorem ZV.other {Z : State} {h h' : Heap} {a b : Addr} {xs : List Int32} {sl : Nat} {v : Value} (F : ZV Z h b xs) (W : Wr h h' a sl v) (q : b ≠ a) : ZV Z h' b xs := Vec.other F W q
theorem ZV.keep {Z : State} {h h' : Heap} {a : Addr} {xs : List Int32} {ws : List Addr} (F : ZV Z h a xs) (K : Keep h h' ws) (q : a ∉ ws) : ZV Z h' a xs := Vec.keep F K q
theorem ZV.set {Z : State} {h h' : Heap} {a : Addr} {xs : List Int32} {i : Nat} {x : Int32} (F : ZV Z h a xs) (W : Wr h h' a i (Value.int x)) : ZV Z h' a (xs.set i x) := by
  have q := Vec.set F W
  rwa [← List.map_set] at q
theorem DV.new {Z : State} {h : Heap} {a : Addr} {N : Nat} (F : Vec Z h a (newarray.typeOf .double) (List.replicate N (defaultValue (newarray.typeOf .double)))) : DV Z h a (List.replicate N 0) := by
  unfold DV; rw [List.map_replicate]; exact F
theorem IV.new {Z : State} {h : Heap} {a : Addr} {N : Nat} (F : Vec Z h a (newarray.typeOf .int) (List.replicate N (defaultValue (newarray.typeOf .int)))) : IV Z h a (List.replicate N 0) := by
  unfold IV; rw [List.map_replicate]; exact F
theorem JV.new {Z : State} {h : Heap} {a : Addr} {N : Nat} (F : Vec Z h a (newarray.typeOf .long) (List.replicate N (defaultValue (newarray.typeOf .long)))) : JV Z h a (List.replicate N 0) := by
  unfold JV; rw [List.map_replicate]; exact F
theorem ZV.new {Z : State} {h : Heap} {a : Addr} {N : Nat} (F : Vec Z h a (newarray.typeOf .boolean) (List.replicate N (defaultValue (newarray.typeOf .boolean)))) : ZV Z h a (List.replicate N 0) := by
  unfold ZV; rw [List.map_replicate]; exact F
def HV (Z : State) (h : Heap) (a : Addr) (xs : List Nat) : Prop := Vec Z h a .int (xs.map (fun c : Nat => Value.int (Int32.ofNat c)))
theorem HV.lt {Z : State} {h : Heap} {a : Addr} {xs : List Nat} (F : HV Z h a xs) : a < h.size := Vec.lt F
theorem HV.ext {Z : State} {h h' : Heap} {a : Addr} {xs : List Nat} (F : HV Z h a xs) (E : Ext h h') : HV Z h' a xs := Vec.ext F E
theorem HV.other {Z : State} {h h' : Heap} {a b : Addr} {xs : List Nat} {sl : Nat} {v : Value} (F : HV Z h b xs) (W : Wr h h' a sl v) (q : b ≠ a) : HV Z h' b xs := Vec.other F W q
theorem HV.keep {Z : State} {h h' : Heap} {a : Addr} {xs : List Nat} {ws : List Addr} (F : HV Z h a xs) (K : Keep h h' ws) (q : a ∉ ws) : HV Z h' a xs := Vec.keep F K q
theorem HV.set {Z : State} {h h' : Heap} {a : Addr} {xs : List Nat} {i c : Nat} (F : HV Z h a xs) (W : Wr h h' a i (.int (Int32.ofNat c))) : HV Z h' a (xs.set i c) := by
  have q := Vec.set F W
  unfold HV
  rw [List.map_set]; exact q
theorem HV.new {Z : State} {h : Heap} {a : Addr} {N : Nat} (F : Vec Z h a (newarray.typeOf .int) (List.replicate N (defaultValue (newarray.typeOf .int)))) : HV Z h a (List.replicate N 0) := by
  unfold HV; rw [List.map_replicate]; exact F
theorem mapAt {α : Type} {f : α → Value} {xs : List α} {i : Nat} {x : α} (h : xs[i]? = some x) : (xs.map f)[i]? = some (f x) := by rw [List.getElem?_map, h]; rfl
theorem mapLt {α : Type} {f : α → Value} {xs : List α} {i : Nat} (h : i < xs.length) : i < (xs.map f).length := by rwa [List.length_map]
theorem getDAt {α : Type} {xs : List α} {i : Nat} {d : α} (h : i < xs.length) : xs[i]? = some (xs.getD i d) := by rw [List.getD_eq_getElem?_getD, List.getElem?_eq_getElem h]; rfl
section Walk2
variable {p : Program} {l : Launch} {e : Env} {R : Room} {s : State} {m : MethodId} {args : Array Value} {below : List Frame} {meth : Method} {c : Code} {Z : State} {a0 : Array Value} {own nm : String} {bytes : ByteArray} {ml : Nat} {ret : Option FieldType} {n0 ce sl pc pc' : Nat} {h : Heap} {Ls Ls' : Array Slot} {S : List Value} {Q : Option Value → Heap → Prop} {a : Addr} {ty : FieldType} {xs : List Value} {v : Value} {j : Int32} {i : Nat}
theorem inb {cl : Cell} (e1 : cl.slots.toList = xs) (hj : j.toInt = i) (hi : i < xs.length) : ¬ (j < 0 ∨ cl.slots.size ≤ j.toNatClampNeg) := by
  obtain ⟨q1, q2⟩ := clamp hj
  subst e1
  rw [q1]; simp at hi; intro q; rcases q with q | q
  · exact q2 q
  · omega
theorem inv {cl : Cell} (e1 : cl.slots.toList = xs) (hj : j.toInt = i) (hv : xs[i]? = some v) : cl.slots[j.toNatClampNeg]? = some v := by
  obtain ⟨q1, q2⟩ := clamp hj
  subst e1
  rw [q1]; simpa using hv
theorem ltOf (hv : xs[i]? = some v) : i < xs.length := (List.getElem?_eq_some_iff.mp hv).1
theorem iaload (K : Cx Z own nm bytes ml ret p s m meth c) (F : Vec Z h a .int xs) (hj : j.toInt = i) (hv : xs[i]? = some v) (hd : decode bytes pc = .ok (.iaload, 1)) (hp : pc + 1 = pc') (q : Go p l e R s m args below meth c n0 h ce sl (mkF m pc' Ls (v :: S)) Q) : Go p l e R s m args below meth c n0 h ce sl (mkF m pc Ls (.int j :: .ref a :: S)) Q := by
  subst hp; obtain ⟨cl, A, e1, e2⟩ := F
  exact one (fun T L X eT t => X.iaload K.1 (by rw [eT]; exact A.1) (State.isArrayOf_alike K.2.1.alike A.2.1) A.2.2 (inb e1 hj (ltOf hv)) (inv e1 hj hv) (g := mkF m pc Ls (.int j :: .ref a :: S)) rfl rfl (hb K.2.2.2.1 hd) t) q
theorem laload (K : Cx Z own nm bytes ml ret p s m meth c) (F : Vec Z h a .long xs) (hj : j.toInt = i) (hv : xs[i]? = some v) (hd : decode bytes pc = .ok (.laload, 1)) (hp : pc + 1 = pc') (q : Go p l e R s m args below meth c n0 h ce sl (mkF m pc' Ls (v :: S)) Q) : Go p l e R s m args below meth c n0 h ce sl (mkF m pc Ls (.int j :: .ref a :: S)) Q := by
  subst hp; obtain ⟨cl, A, e1, e2⟩ := F
  exact one (fun T L X eT t => X.laload K.1 (by rw [eT]; exact A.1) (State.isArrayOf_alike K.2.1.alike A.2.1) A.2.2 (inb e1 hj (ltOf hv)) (inv e1 hj hv) (g := mkF m pc Ls (.int j :: .ref a :: S)) rfl rfl (hb K.2.2.2.1 hd) t) q
theorem daload (K : Cx Z own nm bytes ml ret p s m meth c) (F : Vec Z h a .double xs) (hj : j.toInt = i) (hv : xs[i]? = some v) (hd : decode bytes pc = .ok (.daload, 1)) (hp : pc + 1 = pc') (q : Go p l e R s m args below meth c n0 h ce sl (mkF m pc' Ls (v :: S)) Q) : Go p l e R s m args below meth c n0 h ce sl (mkF m pc Ls (.int j :: .ref a :: S)) Q := by
  subst hp; obtain ⟨cl, A, e1, e2⟩ := F
  exact one (fun T L X eT t => X.daload K.1 (by rw [eT]; exact A.1) (State.isArrayOf_alike K.2.1.alike A.2.1) A.2.2 (inb e1 hj (ltOf hv)) (inv e1 hj hv) (g := mkF m pc Ls (.int j :: .ref a :: S)) rfl rfl (hb K.2.2.2.1 hd) t) q
theorem zaload (K : Cx Z own nm bytes ml ret p s m meth c) (F : Vec Z h a .boolean xs) (hj : j.toInt = i) (hv : xs[i]? = some v) (hd : decode bytes pc = .ok (.baload, 1)) (hp : pc + 1 = pc') (q : Go p l e R s m args below meth c n0 h ce sl (mkF m pc' Ls (v :: S)) Q) : Go p l e R s m args below meth c n0 h ce sl (mkF m pc Ls (.int j :: .ref a :: S)) Q := by
  subst hp; obtain ⟨cl, A, e1, e2⟩ := F
  exact one (fun T L X eT t => X.baloadBooleans K.1 (by rw [eT]; exact A.1) (State.isArrayOf_alike K.2.1.alike A.2.1) A.2.2 (inb e1 hj (ltOf hv)) (inv e1 hj hv) (g := mkF m pc Ls (.int j :: .ref a :: S)) rfl rfl (hb K.2.2.2.1 hd) t) q
theorem baload (K : Cx Z own nm bytes ml ret p s m meth c) (F : Vec Z h a .byte xs) (hj : j.toInt = i) (hv : xs[i]? = some v) (hd : decode bytes pc = .ok (.baload, 1)) (hp : pc + 1 = pc') (q : Go p l e R s m args below meth c n0 h ce sl (mkF m pc' Ls (v :: S)) Q) : Go p l e R s m args below meth c n0 h ce sl (mkF m pc Ls (.int j :: .ref a :: S)) Q := by
  subst hp; obtain ⟨cl, A, e1, e2⟩ := F
  exact one (fun T L X eT t => X.baloadBytes K.1 (by rw [eT]; exact A.1) (State.isArrayOf_alike K.2.1.alike A.2.1) A.2.2 (inb e1 hj (ltOf hv)) (inv e1 hj hv) (g := mkF m pc Ls (.int j :: .ref a :: S)) rfl rfl (hb K.2.2.2.1 hd) t) q
theorem aaload (K : Cx Z own nm bytes ml ret p s m meth c) (F : Vec Z h a ty xs) (ht : ty.isReference = true) (hj : j.toInt = i) (hv : xs[i]? = some v) (hd : decode bytes pc = .ok (.aaload, 1)) (hp : pc + 1 = pc') (q : Go p l e R s m args below meth c n0 h ce sl (mkF m pc' Ls (v :: S)) Q) : Go p l e R s m args below meth c n0 h ce sl (mkF m pc Ls (.int j :: .ref a :: S)) Q := by
  subst hp; obtain ⟨cl, A, e1, e2⟩ := F
  exact one (fun T L X eT t => X.aaload K.1 (by rw [eT]; exact A.1) (State.isArrayOf_alike K.2.1.alike A.2.1) ht A.2.2 (inb e1 hj (ltOf hv)) (inv e1 hj hv) (g := mkF m pc Ls (.int j :: .ref a :: S)) rfl rfl (hb K.2.2.2.1 hd) t) q
theorem alen (K : Cx Z own nm bytes ml ret p s m meth c) (F : Vec Z h a ty xs) (hd : decode bytes pc = .ok (.arraylength, 1)) (hp : pc + 1 = pc') (q : Go p l e R s m args below meth c n0 h ce sl (mkF m pc' Ls (.int xs.length.toInt32 :: S)) Q) : Go p l e R s m args below meth c n0 h ce sl (mkF m pc Ls (.ref a :: S)) Q := by
  subst hp; obtain ⟨cl, A, e1, e2⟩ := F
  have hz : cl.slots.size = xs.length := by rw [← e1]; simp
  rw [← hz] at q
  exact one (fun T L X eT t => X.arraylength K.1 (by rw [eT]; exact A.1) (State.isArrayOf_alike K.2.1.alike A.2.1) (g := mkF m pc Ls (.ref a :: S)) rfl rfl (hb K.2.2.2.1 hd) t) q
theorem iastore (K : Cx Z own nm bytes ml ret p s m meth c) {x : Int32} (F : Vec Z h a .int xs) (hj : j.toInt = i) (hi : i < xs.length) (ga : n0 ≤ a) (hd : decode bytes pc = .ok (.iastore, 1)) (hp : pc + 1 = pc') (q : ∀ h', Wr h h' a i (.int x) → Go p l e R s m args below meth c n0 h' ce sl (mkF m pc' Ls S) Q) : Go p l e R s m args below meth c n0 h ce sl (mkF m pc Ls (.int x :: .int j :: .ref a :: S)) Q := by
  subst hp; obtain ⟨cl, A, e1, e2⟩ := F
  intro T L0 X N eT
  obtain ⟨T', h', X', e', W, st⟩ := stI X K.1 K.2.1 eT A (inb e1 hj hi) (g := mkF m pc Ls (.int x :: .int j :: .ref a :: S)) rfl rfl (hb K.2.2.2.1 hd)
  rw [(clamp hj).1] at W
  obtain ⟨s₂, u, L', a1, r⟩ := q h' W T' _ X' (Fr.snoc X' N ga) e'
  exact ⟨s₂, u, L', st _ a1, r⟩
theorem lastore (K : Cx Z own nm bytes ml ret p s m meth c) {x : Int64} (F : Vec Z h a .long xs) (hj : j.toInt = i) (hi : i < xs.length) (ga : n0 ≤ a) (hd : decode bytes pc = .ok (.lastore, 1)) (hp : pc + 1 = pc') (q : ∀ h', Wr h h' a i (.long x) → Go p l e R s m args below meth c n0 h' ce sl (mkF m pc' Ls S) Q) : Go p l e R s m args below meth c n0 h ce sl (mkF m pc Ls (.long x :: .int j :: .ref a :: S)) Q := by
  subst hp; obtain ⟨cl, A, e1, e2⟩ := F
  intro T L0 X N eT
  obtain ⟨T', h', X', e', W, st⟩ := stJ X K.1 K.2.1 eT A (inb e1 hj hi) (g := mkF m pc Ls (.long x :: .int j :: .ref a :: S)) rfl rfl (hb K.2.2.2.1 hd)
  rw [(clamp hj).1] at W
  obtain ⟨s₂, u, L', a1, r⟩ := q h' W T' _ X' (Fr.snoc X' N ga) e'
  exact ⟨s₂, u, L', st _ a1, r⟩
theorem dastore (K : Cx Z own nm bytes ml ret p s m meth c) {x : UInt64} (F : Vec Z h a .double xs) (hj : j.toInt = i) (hi : i < xs.length) (ga : n0 ≤ a) (hd : decode bytes pc = .ok (.dastore, 1)) (hp : pc + 1 = pc') (q : ∀ h', Wr h h' a i (.double x) → Go p l e R s m args below meth c n0 h' ce sl (mkF m pc' Ls S) Q) : Go p l e R s m args below meth c n0 h ce sl (mkF m pc Ls (.double x :: .int j :: .ref a :: S)) Q := by
  subst hp; obtain ⟨cl, A, e1, e2⟩ := F
  intro T L0 X N eT
  obtain ⟨T', h', X', e', W, st⟩ := stD X K.1 K.2.1 eT A (inb e1 hj hi) (g := mkF m pc Ls (.double x :: .int j :: .ref a :: S)) rfl rfl (hb K.2.2.2.1 hd)
  rw [(clamp hj).1] at W
  obtain ⟨s₂, u, L', a1, r⟩ := q h' W T' _ X' (Fr.snoc X' N ga) e'
  exact ⟨s₂, u, L', st _ a1, r⟩
theorem zastore (K : Cx Z own nm bytes ml ret p s m meth c) {x : Int32} (F : Vec Z h a .boolean xs) (hj : j.toInt = i) (hi : i < xs.length) (ga : n0 ≤ a) (hd : decode bytes pc = .ok (.bastore, 1)) (hp : pc + 1 = pc') (q : ∀ h', Wr h h' a i (.int (nar .boolean x)) → Go p l e R s m args below meth c n0 h' ce sl (mkF m pc' Ls S) Q) : Go p l e R s m args below meth c n0 h ce sl (mkF m pc Ls (.int x :: .int j :: .ref a :: S)) Q := by
  subst hp; obtain ⟨cl, A, e1, e2⟩ := F
  intro T L0 X N eT
  obtain ⟨T', h', X', e', W, st⟩ := stZ X K.1 K.2.1 eT A (inb e1 hj hi) (g := mkF m pc Ls (.int x :: .int j :: .ref a :: S)) rfl rfl (hb K.2.2.2.1 hd)
  rw [(clamp hj).1] at W
  obtain ⟨s₂, u, L', a1, r⟩ := q h' W T' _ X' (Fr.snoc X' N ga) e'
  exact ⟨s₂, u, L', st _ a1, r⟩
theorem bastore (K : Cx Z own nm bytes ml ret p s m meth c) {x : Int32} (F : Vec Z h a .byte xs) (hj : j.toInt = i) (hi : i < xs.length) (ga : n0 ≤ a) (hd : decode bytes pc = .ok (.bastore, 1)) (hp : pc + 1 = pc') (q : ∀ h', Wr h h' a i (.int (nar .byte x)) → Go p l e R s m args below meth c n0 h' ce sl (mkF m pc' Ls S) Q) : Go p l e R s m args below meth c n0 h ce sl (mkF m pc Ls (.int x :: .int j :: .ref a :: S)) Q := by
  subst hp; obtain ⟨cl, A, e1, e2⟩ := F
  intro T L0 X N eT
  obtain ⟨T', h', X', e', W, st⟩ := stB X K.1 K.2.1 eT A (inb e1 hj hi) (g := mkF m pc Ls (.int x :: .int j :: .ref a :: S)) rfl rfl (hb K.2.2.2.1 hd)
  rw [(clamp hj).1] at W
  obtain ⟨s₂, u, L', a1, r⟩ := q h' W T' _ X' (Fr.snoc X' N ga) e'
  exact ⟨s₂, u, L', st _ a1, r⟩
theorem aastore (K : Cx Z own nm bytes ml ret p s m meth c) {C : String} (F : VecR Z h a C xs) (hS : v = .null ∨ ∃ y, v = .ref y ∧ Ins Z h y C true) (hj : j.toInt = i) (hi : i < xs.length) (ga : n0 ≤ a) (hd : decode bytes pc = .ok (.aastore, 1)) (hp : pc + 1 = pc') (q : ∀ h', Wr h h' a i v → Go p l e R s m args below meth c n0 h' ce sl (mkF m pc' Ls S) Q) : Go p l e R s m args below meth c n0 h ce sl (mkF m pc Ls (v :: .int j :: .ref a :: S)) Q := by
  subst hp; obtain ⟨cl, A, e1, e2, O⟩ := F
  intro T L0 X N eT
  have hSt : Sto Z h a v := by
    rcases hS with rfl | ⟨y, rfl, I⟩
    · exact Or.inl rfl
    · exact Sto.of A O I
  obtain ⟨T', h', X', e', W, st⟩ := stR X K.1 K.2.1 eT A (inb e1 hj hi) rfl hSt (g := mkF m pc Ls (v :: .int j :: .ref a :: S)) rfl rfl (hb K.2.2.2.1 hd)
  rw [(clamp hj).1] at W
  obtain ⟨s₂, u, L', a1, r⟩ := q h' W T' _ X' (Fr.snoc X' N ga) e'
  exact ⟨s₂, u, L', st _ a1, r⟩
theorem newArr (K : Cx Z own nm bytes ml ret p s m meth c) {aty : ArrayType} {n : Int32} {N : Nat} (w : (Cond.arrayClass (newarray.typeOf aty)).before a0 Z = true) (hn : n.toInt = N) (hb : N * 8 ≤ 536870912) (hd : decode bytes pc = .ok (.newarray aty, 2)) (hc : ce + 1 ≤ R.cells) (hl : sl + N ≤ R.slots) (hp : pc + 2 = pc') (q : ∀ h' x, x = h.size → Ext h h' → Vec Z h' x (newarray.typeOf aty) (List.replicate N (defaultValue (newarray.typeOf aty))) → Go p l e R s m args below meth c n0 h' (ce + 1) (sl + N) (mkF m pc' Ls (.ref x :: S)) Q) : Go p l e R s m args below meth c n0 h ce sl (mkF m pc Ls (.int n :: S)) Q := by
  subst hp
  obtain ⟨c1, c2⟩ := clamp hn
  intro T L0 X N0 eT
  obtain ⟨T', h', cA, X', e', E, A, st⟩ := newP X K.1 K.2.1 w eT (g := mkF m pc Ls (.int n :: S)) rfl (Jvm.hb K.2.2.2.1 hd) rfl c2 (cap := N) (Nat.le_of_eq c1) hb hc hl
  obtain ⟨s₂, u, L', a1, r⟩ := q h' h.size rfl E ⟨_, A, by simp [newA, c1], by simp; omega⟩ T' _ X' N0 e'
  exact ⟨s₂, u, L', st _ a1, r⟩
theorem newArrC (K : Cx Z own nm bytes ml ret p s m meth c) {aty : ArrayType} {n : Int32} {N cap : Nat} (w : (Cond.arrayClass (newarray.typeOf aty)).before a0 Z = true) (hn : n.toInt = N) (hcap : N ≤ cap) (hb : cap * 8 ≤ 536870912) (hd : decode bytes pc = .ok (.newarray aty, 2)) (hc : ce + 1 ≤ R.cells) (hl : sl + cap ≤ R.slots) (hp : pc + 2 = pc') (q : ∀ h' x, x = h.size → Ext h h' → Vec Z h' x (newarray.typeOf aty) (List.replicate N (defaultValue (newarray.typeOf aty))) → Go p l e R s m args below meth c n0 h' (ce + 1) (sl + cap) (mkF m pc' Ls (.ref x :: S)) Q) : Go p l e R s m args below meth c n0 h ce sl (mkF m pc Ls (.int n :: S)) Q := by
  subst hp
  obtain ⟨c1, c2⟩ := clamp hn
  intro T L0 X N0 eT
  obtain ⟨T', h', cA, X', e', E, A, st⟩ := newP X K.1 K.2.1 w eT (g := mkF m pc Ls (.int n :: S)) rfl (Jvm.hb K.2.2.2.1 hd) rfl c2 (cap := cap) (by omega) hb hc hl
  obtain ⟨s₂, u, L', a1, r⟩ := q h' h.size rfl E ⟨_, A, by simp [newA, c1], by simp; omega⟩ T' _ X' N0 e'
  exact ⟨s₂, u, L', st _ a1, r⟩
theorem newArrR (K : Cx Z own nm bytes ml ret p s m meth c) {k : Nat} {C : String} {n : Int32} {N : Nat} (w1 : (Cond.classLink own k C).before a0 Z = true) (w2 : (Cond.arrayOver (.object C)).before a0 Z = true) (hn : n.toInt = N) (hb : N * 8 ≤ 536870912) (hd : decode bytes pc = .ok (.anewarray k, 3)) (hc : ce + 1 ≤ R.cells) (hl : sl + N ≤ R.slots) (hp : pc + 3 = pc') (q : ∀ h' x, x = h.size → Ext h h' → VecR Z h' x C (List.replicate N .null) → Go p l e R s m args below meth c n0 h' (ce + 1) (sl + N) (mkF m pc' Ls (.ref x :: S)) Q) : Go p l e R s m args below meth c n0 h ce sl (mkF m pc Ls (.int n :: S)) Q := by
  subst hp
  obtain ⟨c1, c2⟩ := clamp hn
  intro T L0 X N0 eT
  obtain ⟨T', h', cA, X', e', E, A, O, st⟩ := newR X K.1 K.2.1 K.2.2.1 w1 w2 eT (g := mkF m pc Ls (.int n :: S)) rfl (Jvm.hb K.2.2.2.1 hd) rfl c2 (cap := N) (Nat.le_of_eq c1) hb hc hl
  obtain ⟨s₂, u, L', a1, r⟩ := q h' h.size rfl E ⟨_, A, by simp [newA, c1, defaultValue], by simp; omega, O⟩ T' _ X' N0 e'
  exact ⟨s₂, u, L', st _ a1, r⟩
theorem cast' (K : Cx Z own nm bytes ml ret p s m meth c) {k : Nat} {K' : String} (w : (Cond.classLink own k K').before a0 Z = true) (F : Ins Z h a K' true) (hd : decode bytes pc = .ok (.checkcast k, 3)) (hp : pc + 3 = pc') (q : Go p l e R s m args below meth c n0 h ce sl (mkF m pc' Ls (.ref a :: S)) Q) : Go p l e R s m args below meth c n0 h ce sl (mkF m pc Ls (.ref a :: S)) Q := by
  subst hp; exact oneT (fun T L X eT => castY X K.1 K.2.1 K.2.2.1 w eT F (g := mkF m pc Ls (.ref a :: S)) rfl rfl (hb K.2.2.2.1 hd)) q
end Walk2
/-- a body's walk is its contract -/
theorem ctr {l : Launch} {Z : State} {y : MethodName} {bytes : ByteArray} {ml : Nat} {ret : Option FieldType} {ws : List Cond} {rm : Room} {n0 : Nat} {as' : Array Value} {h : Heap} {Q : Option Value → Heap → Prop} {own nm : String} (ho : y.cls = own) (hn : y.name = nm) {Ls : Array Slot} (hpl : plainFor y = true) (hef : ∀ m : MethodId, entryFrame m as' ml = mkF m 0 Ls [])
    (body : ∀ (p : Program) (e : Env) (s : State) (m : MethodId) (below : List Frame) (meth : Method) (c : Code), Cx Z own nm bytes ml ret p s m meth c → s.heap = h → Go p l e rm s m as' below meth c n0 h 0 0 (mkF m 0 Ls []) Q) : Ctr l Z y bytes ml ret ws rm n0 as' h Q := by
  subst ho hn
  refine MetFree.of_bodySF hpl hisR ?_
  intro p e s m args below meth c s₁ Bd hml hP hK
  obtain ⟨rfl, hZ, hh⟩ := hP
  have X0 : Stand p l e rm s m _ below meth c s₁ [] 0 0 := Stand.of_body Bd
  have e0 : s₁.heap = h := by rw [← hh, Bd.state]; rfl
  obtain ⟨s₂, v, L', a1, a2, a3, a4, a5, a6⟩ := body p e s m below meth c ⟨Bd.exec, hZ, findClass_of_methodNamed Bd.named, Bd.bytes, hml, Bd.returns, BodyLoose.notSynchronized Bd, (name_of_methodNamed Bd.named Bd.method).1⟩ hh s₁ [] X0 (Fr.nil n0) e0
  exact ⟨s₂, _, castTop (hef m) a1, a2, a3, v, L', rfl, ⟨a5, a4⟩, a6⟩
/-- a term that the case sets equal to a double -/
theorem eqD {args : Array Value} {first s : State} {o : Option Outcome} {idx : List Nat} {a b : Term} {n : UInt64} (h : (Cond.eq a b).value args first o s idx = some true) (hb : b.eval args first o idx s = some (.double n)) : a.eval args first o idx s = some (.double n) := by
  simp only [Cond.value, hb] at h
  cases ha : a.eval args first o idx s with
  | none => simp [ha] at h
  | some x => cases x <;> simp [ha] at h ⊢; exact h
/-- a term that the case sets equal to a reference -/
theorem eqR {args : Array Value} {first s : State} {o : Option Outcome} {idx : List Nat} {a b : Term} {n : Addr} (h : (Cond.eq a b).value args first o s idx = some true) (hb : b.eval args first o idx s = some (.ref n)) : a.eval args first o idx s = some (.ref n) := by
  simp only [Cond.value, hb] at h
  cases ha : a.eval args first o idx s with
  | none => simp [ha] at h
  | some x => cases x <;> simp [ha] at h ⊢; exact h
theorem eqI {args : Array Value} {first s : State} {o : Option Outcome} {idx : List Nat} {a b : Term} {n : Int32} (h : (Cond.eq a b).value args first o s idx = some true) (hb : b.eval args first o idx s = some (.int n)) : a.eval args first o idx s = some (.int n) := by
  simp only [Cond.value, hb] at h
  cases ha : a.eval args first o idx s with
  | none => simp [ha] at h
  | some x => cases x <;> simp [ha] at h ⊢; exact h
/-! the branch behind a comparison of doubles -/
def dge (r : Option Ordering) : Prop := r = some .eq ∨ r = some .gt
def dle (r : Option Ordering) : Prop := r = some .lt ∨ r = some .eq
section Dd
variable {r : Option Ordering}
theorem dd_l_eq_t (h : r = some .eq) : ifCond.holds .eq (cmpValue r .l) = true := by
  revert h; try unfold dge
  try unfold dle
  rcases r with _ | (_ | _ | _) <;> decide
theorem dd_l_eq_f (h : ¬ r = some .eq) : ifCond.holds .eq (cmpValue r .l) = false := by
  revert h; try unfold dge
  try unfold dle
  rcases r with _ | (_ | _ | _) <;> decide
theorem dd_l_ne_t (h : ¬ r = some .eq) : ifCond.holds .ne (cmpValue r .l) = true := by
  revert h; try unfold dge
  try unfold dle
  rcases r with _ | (_ | _ | _) <;> decide
theorem dd_l_ne_f (h : r = some .eq) : ifCond.holds .ne (cmpValue r .l) = false := by
  revert h; try unfold dge
  try unfold dle
  rcases r with _ | (_ | _ | _) <;> decide
theorem dd_l_lt_t (h : ¬ dge r) : ifCond.holds .lt (cmpValue r .l) = true := by
  revert h; try unfold dge
  try unfold dle
  rcases r with _ | (_ | _ | _) <;> decide
theorem dd_l_lt_f (h : dge r) : ifCond.holds .lt (cmpValue r .l) = false := by
  revert h; try unfold dge
  try unfold dle
  rcases r with _ | (_ | _ | _) <;> decide
theorem dd_l_ge_t (h : dge r) : ifCond.holds .ge (cmpValue r .l) = true := by
  revert h; try unfold dge
  try unfold dle
  rcases r with _ | (_ | _ | _) <;> decide
theorem dd_l_ge_f (h : ¬ dge r) : ifCond.holds .ge (cmpValue r .l) = false := by
  revert h; try unfold dge
  try unfold dle
  rcases r with _ | (_ | _ | _) <;> decide
theorem dd_l_gt_t (h : r = some .gt) : ifCond.holds .gt (cmpValue r .l) = true := by
  revert h; try unfold dge
  try unfold dle
  rcases r with _ | (_ | _ | _) <;> decide
theorem dd_l_gt_f (h : ¬ r = some .gt) : ifCond.holds .gt (cmpValue r .l) = false := by
  revert h; try unfold dge
  try unfold dle
  rcases r with _ | (_ | _ | _) <;> decide
theorem dd_l_le_t (h : ¬ r = some .gt) : ifCond.holds .le (cmpValue r .l) = true := by
  revert h; try unfold dge
  try unfold dle
  rcases r with _ | (_ | _ | _) <;> decide
theorem dd_l_le_f (h : r = some .gt) : ifCond.holds .le (cmpValue r .l) = false := by
  revert h; try unfold dge
  try unfold dle
  rcases r with _ | (_ | _ | _) <;> decide
theorem dd_g_eq_t (h : r = some .eq) : ifCond.holds .eq (cmpValue r .g) = true := by
  revert h; try unfold dge
  try unfold dle
  rcases r with _ | (_ | _ | _) <;> decide
theorem dd_g_eq_f (h : ¬ r = some .eq) : ifCond.holds .eq (cmpValue r .g) = false := by
  revert h; try unfold dge
  try unfold dle
  rcases r with _ | (_ | _ | _) <;> decide
theorem dd_g_ne_t (h : ¬ r = some .eq) : ifCond.holds .ne (cmpValue r .g) = true := by
  revert h; try unfold dge
  try unfold dle
  rcases r with _ | (_ | _ | _) <;> decide
theorem dd_g_ne_f (h : r = some .eq) : ifCond.holds .ne (cmpValue r .g) = false := by
  revert h; try unfold dge
  try unfold dle
  rcases r with _ | (_ | _ | _) <;> decide
theorem dd_g_lt_t (h : r = some .lt) : ifCond.holds .lt (cmpValue r .g) = true := by
  revert h; try unfold dge
  try unfold dle
  rcases r with _ | (_ | _ | _) <;> decide
theorem dd_g_lt_f (h : ¬ r = some .lt) : ifCond.holds .lt (cmpValue r .g) = false := by
  revert h; try unfold dge
  try unfold dle
  rcases r with _ | (_ | _ | _) <;> decide
theorem dd_g_ge_t (h : ¬ r = some .lt) : ifCond.holds .ge (cmpValue r .g) = true := by
  revert h; try unfold dge
  try unfold dle
  rcases r with _ | (_ | _ | _) <;> decide
theorem dd_g_ge_f (h : r = some .lt) : ifCond.holds .ge (cmpValue r .g) = false := by
  revert h; try unfold dge
  try unfold dle
  rcases r with _ | (_ | _ | _) <;> decide
theorem dd_g_gt_t (h : ¬ dle r) : ifCond.holds .gt (cmpValue r .g) = true := by
  revert h; try unfold dge
  try unfold dle
  rcases r with _ | (_ | _ | _) <;> decide
theorem dd_g_gt_f (h : dle r) : ifCond.holds .gt (cmpValue r .g) = false := by
  revert h; try unfold dge
  try unfold dle
  rcases r with _ | (_ | _ | _) <;> decide
theorem dd_g_le_t (h : dle r) : ifCond.holds .le (cmpValue r .g) = true := by
  revert h; try unfold dge
  try unfold dle
  rcases r with _ | (_ | _ | _) <;> decide
theorem dd_g_le_f (h : ¬ dle r) : ifCond.holds .le (cmpValue r .g) = false := by
  revert h; try unfold dge
  try unfold dle
  rcases r with _ | (_ | _ | _) <;> decide
end Dd
end Jvm.OwnWp
namespace Jvm.OwnHeap
open Jvm.FP.Core
theorem gs {α : Type} {l : List α} {i : Nat} (h : i < l.length) (x d : α) (j : Nat) : (l.set i x).getD j d = if j = i then x else l.getD j d := by
  rw [List.getD_eq_getElem?_getD, List.getD_eq_getElem?_getD, List.getElem?_set]
  by_cases e : j = i
  · subst e; rw [if_pos rfl, if_pos h, if_pos rfl]; rfl
  · rw [if_neg (fun q => e q.symm), if_neg e]
theorem gt_take {α : Type} (l : List α) (n i : Nat) (d : α) (h : i < n) : (l.take n).getD i d = l.getD i d := by
  rw [List.getD_eq_getElem?_getD, List.getD_eq_getElem?_getD, List.getElem?_take, if_pos h]
theorem gi {α : Type} (l : List α) (i : Nat) (d : α) (h : i < l.length) : l.getD i d = l[i] := by
  rw [List.getD_eq_getElem?_getD, List.getElem?_eq_getElem h]; rfl
/-- two places change their places -/
theorem swapPerm {α : Type} (l : List α) (d : α) {i j : Nat} (hi : i < l.length) (hj : j < l.length) : ((l.set i (l.getD j d)).set j (l.getD i d)).Perm l := by
  rw [gi l i d hi, gi l j d hj]; exact List.set_set_perm hi hj
theorem takeSwap {α : Type} (l : List α) (d : α) {n i j : Nat} (hn : n ≤ l.length) (hi : i < n) (hj : j < n) : (((l.set i (l.getD j d)).set j (l.getD i d)).take n).Perm (l.take n) := by
  rw [List.take_set, List.take_set, ← gt_take l n i d hi, ← gt_take l n j d hj]
  have hl : (l.take n).length = n := by rw [List.length_take]; omega
  exact swapPerm (l.take n) d (by omega) (by omega)
/-- a double's place in the order -/
def kv (a : UInt64) : Int := zval b64 (val64 a)
def Num (a : UInt64) : Prop := val64 a ≠ .nan
theorem cmp_gt {a b : UInt64} (ha : Num a) (hb : Num b) : Jvm.FP.dcmp a b = some .gt ↔ kv b < kv a := ⟨fun h => (dcmp_gt.mp h).2.2, fun h => dcmp_gt.mpr ⟨ha, hb, h⟩⟩
theorem cmp_lt {a b : UInt64} (ha : Num a) (hb : Num b) : Jvm.FP.dcmp a b = some .lt ↔ kv a < kv b := ⟨fun h => (dcmp_lt.mp h).2.2, fun h => dcmp_lt.mpr ⟨ha, hb, h⟩⟩
theorem cmp_eq {a b : UInt64} (ha : Num a) (hb : Num b) : Jvm.FP.dcmp a b = some .eq ↔ kv a = kv b := ⟨fun h => (dcmp_eq.mp h).2.2, fun h => dcmp_eq.mpr ⟨ha, hb, h⟩⟩
theorem cmp_ge {a b : UInt64} (ha : Num a) (hb : Num b) : Jvm.OwnWp.dge (Jvm.FP.dcmp a b) ↔ kv b ≤ kv a := by
  unfold Jvm.OwnWp.dge
  rw [cmp_eq ha hb, cmp_gt ha hb]; omega
theorem cmp_le {a b : UInt64} (ha : Num a) (hb : Num b) : Jvm.OwnWp.dle (Jvm.FP.dcmp a b) ↔ kv a ≤ kv b := by
  unfold Jvm.OwnWp.dle
  rw [cmp_eq ha hb, cmp_lt ha hb]; omega
theorem num_int {i : Int} {a : UInt64} (h : DInt i a) : Num a := DInt_ne_nan h
theorem kv_int {i : Int} {a : UInt64} (h : DInt i a) : kv a = i * (one64 : Int) := DInt_zval h
end Jvm.OwnHeap
namespace Jvm.Pilot.@@N@@
open Jvm Jvm.ClassFile Sem Op Lib Jvm.Free Jvm.Stand Jvm.LawKit Jvm.RoadKit Bundle Jvm.Pilot.@@N@@.Jvm.D Jvm.OwnWp

theorem d_jdk_65_method_103_0 : decode jdk_65_method_103_code 0 = .ok (.iconst 0, 1) := by decide +kernel
theorem d_jdk_65_method_103_1 : decode jdk_65_method_103_code 1 = .ok (.istore_n 2, 1) := by decide +kernel
theorem d_jdk_65_method_103_2 : decode jdk_65_method_103_code 2 = .ok (.aload_n 0, 1) := by decide +kernel
theorem d_jdk_65_method_103_3 : decode jdk_65_method_103_code 3 = .ok (.arraylength, 1) := by decide +kernel
theorem d_jdk_65_method_103_4 : decode jdk_65_method_103_code 4 = .ok (.istore_n 3, 1) := by decide +kernel
theorem d_jdk_65_method_103_5 : decode jdk_65_method_103_code 5 = .ok (.iload_n 2, 1) := by decide +kernel
theorem d_jdk_65_method_103_6 : decode jdk_65_method_103_code 6 = .ok (.iload_n 3, 1) := by decide +kernel
theorem d_jdk_65_method_103_7 : decode jdk_65_method_103_code 7 = .ok (.if_icmp .ge 13, 3) := by decide +kernel
theorem d_jdk_65_method_103_10 : decode jdk_65_method_103_code 10 = .ok (.aload_n 0, 1) := by decide +kernel
theorem d_jdk_65_method_103_11 : decode jdk_65_method_103_code 11 = .ok (.iload_n 2, 1) := by decide +kernel
theorem d_jdk_65_method_103_12 : decode jdk_65_method_103_code 12 = .ok (.iload_n 1, 1) := by decide +kernel
theorem d_jdk_65_method_103_13 : decode jdk_65_method_103_code 13 = .ok (.iastore, 1) := by decide +kernel
theorem d_jdk_65_method_103_14 : decode jdk_65_method_103_code 14 = .ok (.iinc 2 1, 3) := by decide +kernel
theorem d_jdk_65_method_103_17 : decode jdk_65_method_103_code 17 = .ok (.goto (-12), 3) := by decide +kernel
theorem d_jdk_65_method_103_20 : decode jdk_65_method_103_code 20 = .ok (.return_, 1) := by decide +kernel
theorem d_method_3_0 : decode method_3_code 0 = .ok (.iload 4, 2) := by decide +kernel
theorem d_method_3_2 : decode method_3_code 2 = .ok (.iload 5, 2) := by decide +kernel
theorem d_method_3_4 : decode method_3_code 4 = .ok (.if_icmp .ge 37, 3) := by decide +kernel
theorem d_method_3_7 : decode method_3_code 7 = .ok (.iload_n 3, 1) := by decide +kernel
theorem d_method_3_8 : decode method_3_code 8 = .ok (.iconst 3, 1) := by decide +kernel
theorem d_method_3_9 : decode method_3_code 9 = .ok (.iload 4, 2) := by decide +kernel
theorem d_method_3_11 : decode method_3_code 11 = .ok (.imul, 1) := by decide +kernel
theorem d_method_3_12 : decode method_3_code 12 = .ok (.iushr, 1) := by decide +kernel
theorem d_method_3_13 : decode method_3_code 13 = .ok (.bipush 7, 2) := by decide +kernel
theorem d_method_3_15 : decode method_3_code 15 = .ok (.iand, 1) := by decide +kernel
theorem d_method_3_16 : decode method_3_code 16 = .ok (.iconst 5, 1) := by decide +kernel
theorem d_method_3_17 : decode method_3_code 17 = .ok (.irem, 1) := by decide +kernel
theorem d_method_3_18 : decode method_3_code 18 = .ok (.istore 6, 2) := by decide +kernel
theorem d_method_3_20 : decode method_3_code 20 = .ok (.aload_n 0, 1) := by decide +kernel
theorem d_method_3_21 : decode method_3_code 21 = .ok (.iload 6, 2) := by decide +kernel
theorem d_method_3_23 : decode method_3_code 23 = .ok (.invokevirtual 22, 3) := by decide +kernel
theorem d_method_3_26 : decode method_3_code 26 = .ok (.aload_n 1, 1) := by decide +kernel
theorem d_method_3_27 : decode method_3_code 27 = .ok (.iload 6, 2) := by decide +kernel
theorem d_method_3_29 : decode method_3_code 29 = .ok (.aload_n 1, 1) := by decide +kernel
theorem d_method_3_30 : decode method_3_code 30 = .ok (.iload 6, 2) := by decide +kernel
theorem d_method_3_32 : decode method_3_code 32 = .ok (.iaload, 1) := by decide +kernel
theorem d_method_3_33 : decode method_3_code 33 = .ok (.iconst 1, 1) := by decide +kernel
theorem d_method_3_34 : decode method_3_code 34 = .ok (.iadd, 1) := by decide +kernel
theorem d_method_3_35 : decode method_3_code 35 = .ok (.iastore, 1) := by decide +kernel
theorem d_method_3_36 : decode method_3_code 36 = .ok (.aload_n 2, 1) := by decide +kernel
theorem d_method_3_37 : decode method_3_code 37 = .ok (.iload 6, 2) := by decide +kernel
theorem d_method_3_39 : decode method_3_code 39 = .ok (.iconst 1, 1) := by decide +kernel
theorem d_method_3_40 : decode method_3_code 40 = .ok (.bastore, 1) := by decide +kernel
theorem d_method_3_41 : decode method_3_code 41 = .ok (.return_, 1) := by decide +kernel
theorem d_method_4_0 : decode method_4_code 0 = .ok (.aload_n 1, 1) := by decide +kernel
theorem d_method_4_1 : decode method_4_code 1 = .ok (.iload_n 2, 1) := by decide +kernel
theorem d_method_4_2 : decode method_4_code 2 = .ok (.baload, 1) := by decide +kernel
theorem d_method_4_3 : decode method_4_code 3 = .ok (.ifCond .eq 16, 3) := by decide +kernel
theorem d_method_4_6 : decode method_4_code 6 = .ok (.aload_n 0, 1) := by decide +kernel
theorem d_method_4_7 : decode method_4_code 7 = .ok (.iload_n 2, 1) := by decide +kernel
theorem d_method_4_8 : decode method_4_code 8 = .ok (.iaload, 1) := by decide +kernel
theorem d_method_4_9 : decode method_4_code 9 = .ok (.aload_n 0, 1) := by decide +kernel
theorem d_method_4_10 : decode method_4_code 10 = .ok (.iload_n 3, 1) := by decide +kernel
theorem d_method_4_11 : decode method_4_code 11 = .ok (.iaload, 1) := by decide +kernel
theorem d_method_4_12 : decode method_4_code 12 = .ok (.if_icmp .le 7, 3) := by decide +kernel
theorem d_method_4_19 : decode method_4_code 19 = .ok (.iconst 0, 1) := by decide +kernel
theorem d_method_4_20 : decode method_4_code 20 = .ok (.ireturn, 1) := by decide +kernel
theorem d_method_5_0 : decode method_5_code 0 = .ok (.aload_n 2, 1) := by decide +kernel
theorem d_method_5_1 : decode method_5_code 1 = .ok (.iconst 0, 1) := by decide +kernel
theorem d_method_5_2 : decode method_5_code 2 = .ok (.baload, 1) := by decide +kernel
theorem d_method_5_3 : decode method_5_code 3 = .ok (.ifCond .ne 27, 3) := by decide +kernel
theorem d_method_5_6 : decode method_5_code 6 = .ok (.aload_n 2, 1) := by decide +kernel
theorem d_method_5_7 : decode method_5_code 7 = .ok (.iconst 1, 1) := by decide +kernel
theorem d_method_5_8 : decode method_5_code 8 = .ok (.baload, 1) := by decide +kernel
theorem d_method_5_9 : decode method_5_code 9 = .ok (.ifCond .ne 21, 3) := by decide +kernel
theorem d_method_5_12 : decode method_5_code 12 = .ok (.aload_n 2, 1) := by decide +kernel
theorem d_method_5_13 : decode method_5_code 13 = .ok (.iconst 2, 1) := by decide +kernel
theorem d_method_5_14 : decode method_5_code 14 = .ok (.baload, 1) := by decide +kernel
theorem d_method_5_15 : decode method_5_code 15 = .ok (.ifCond .ne 15, 3) := by decide +kernel
theorem d_method_5_18 : decode method_5_code 18 = .ok (.aload_n 2, 1) := by decide +kernel
theorem d_method_5_19 : decode method_5_code 19 = .ok (.iconst 3, 1) := by decide +kernel
theorem d_method_5_20 : decode method_5_code 20 = .ok (.baload, 1) := by decide +kernel
theorem d_method_5_21 : decode method_5_code 21 = .ok (.ifCond .ne 9, 3) := by decide +kernel
theorem d_method_5_24 : decode method_5_code 24 = .ok (.aload_n 2, 1) := by decide +kernel
theorem d_method_5_25 : decode method_5_code 25 = .ok (.iconst 4, 1) := by decide +kernel
theorem d_method_5_26 : decode method_5_code 26 = .ok (.baload, 1) := by decide +kernel
theorem d_method_5_27 : decode method_5_code 27 = .ok (.ifCond .eq 7, 3) := by decide +kernel
theorem d_method_5_30 : decode method_5_code 30 = .ok (.iconst 1, 1) := by decide +kernel
theorem d_method_5_31 : decode method_5_code 31 = .ok (.goto 4, 3) := by decide +kernel
theorem d_method_5_34 : decode method_5_code 34 = .ok (.iconst 0, 1) := by decide +kernel
theorem d_method_5_35 : decode method_5_code 35 = .ok (.istore_n 3, 1) := by decide +kernel
theorem d_method_5_36 : decode method_5_code 36 = .ok (.aload_n 0, 1) := by decide +kernel
theorem d_method_5_37 : decode method_5_code 37 = .ok (.invokevirtual 25, 3) := by decide +kernel
theorem d_method_5_40 : decode method_5_code 40 = .ok (.iload_n 3, 1) := by decide +kernel
theorem d_method_5_41 : decode method_5_code 41 = .ok (.if_icmp .ne 5, 3) := by decide +kernel
theorem d_method_5_46 : decode method_5_code 46 = .ok (.iload_n 3, 1) := by decide +kernel
theorem d_method_5_47 : decode method_5_code 47 = .ok (.ifCond .ne 5, 3) := by decide +kernel
theorem d_method_5_50 : decode method_5_code 50 = .ok (.iconst 1, 1) := by decide +kernel
theorem d_method_5_51 : decode method_5_code 51 = .ok (.ireturn, 1) := by decide +kernel
theorem d_method_5_52 : decode method_5_code 52 = .ok (.aload_n 0, 1) := by decide +kernel
theorem d_method_5_53 : decode method_5_code 53 = .ok (.invokevirtual 29, 3) := by decide +kernel
theorem d_method_5_56 : decode method_5_code 56 = .ok (.istore 4, 2) := by decide +kernel
theorem d_method_5_58 : decode method_5_code 58 = .ok (.iload 4, 2) := by decide +kernel
theorem d_method_5_60 : decode method_5_code 60 = .ok (.ifCond .lt 9, 3) := by decide +kernel
theorem d_method_5_63 : decode method_5_code 63 = .ok (.iload 4, 2) := by decide +kernel
theorem d_method_5_65 : decode method_5_code 65 = .ok (.iconst 5, 1) := by decide +kernel
theorem d_method_5_66 : decode method_5_code 66 = .ok (.if_icmp .lt 5, 3) := by decide +kernel
theorem d_method_5_71 : decode method_5_code 71 = .ok (.aload_n 2, 1) := by decide +kernel
theorem d_method_5_72 : decode method_5_code 72 = .ok (.iload 4, 2) := by decide +kernel
theorem d_method_5_74 : decode method_5_code 74 = .ok (.baload, 1) := by decide +kernel
theorem d_method_5_75 : decode method_5_code 75 = .ok (.ifCond .ne 5, 3) := by decide +kernel
theorem d_method_5_80 : decode method_5_code 80 = .ok (.aload_n 1, 1) := by decide +kernel
theorem d_method_5_81 : decode method_5_code 81 = .ok (.aload_n 2, 1) := by decide +kernel
theorem d_method_5_82 : decode method_5_code 82 = .ok (.iconst 0, 1) := by decide +kernel
theorem d_method_5_83 : decode method_5_code 83 = .ok (.iload 4, 2) := by decide +kernel
theorem d_method_5_85 : decode method_5_code 85 = .ok (.invokestatic 33, 3) := by decide +kernel
theorem d_method_5_88 : decode method_5_code 88 = .ok (.ifCond .ne 47, 3) := by decide +kernel
theorem d_method_5_91 : decode method_5_code 91 = .ok (.aload_n 1, 1) := by decide +kernel
theorem d_method_5_92 : decode method_5_code 92 = .ok (.aload_n 2, 1) := by decide +kernel
theorem d_method_5_93 : decode method_5_code 93 = .ok (.iconst 1, 1) := by decide +kernel
theorem d_method_5_94 : decode method_5_code 94 = .ok (.iload 4, 2) := by decide +kernel
theorem d_method_5_96 : decode method_5_code 96 = .ok (.invokestatic 33, 3) := by decide +kernel
theorem d_method_5_99 : decode method_5_code 99 = .ok (.ifCond .ne 36, 3) := by decide +kernel
theorem d_method_5_102 : decode method_5_code 102 = .ok (.aload_n 1, 1) := by decide +kernel
theorem d_method_5_103 : decode method_5_code 103 = .ok (.aload_n 2, 1) := by decide +kernel
theorem d_method_5_104 : decode method_5_code 104 = .ok (.iconst 2, 1) := by decide +kernel
theorem d_method_5_105 : decode method_5_code 105 = .ok (.iload 4, 2) := by decide +kernel
theorem d_method_5_107 : decode method_5_code 107 = .ok (.invokestatic 33, 3) := by decide +kernel
theorem d_method_5_110 : decode method_5_code 110 = .ok (.ifCond .ne 25, 3) := by decide +kernel
theorem d_method_5_113 : decode method_5_code 113 = .ok (.aload_n 1, 1) := by decide +kernel
theorem d_method_5_114 : decode method_5_code 114 = .ok (.aload_n 2, 1) := by decide +kernel
theorem d_method_5_115 : decode method_5_code 115 = .ok (.iconst 3, 1) := by decide +kernel
theorem d_method_5_116 : decode method_5_code 116 = .ok (.iload 4, 2) := by decide +kernel
theorem d_method_5_118 : decode method_5_code 118 = .ok (.invokestatic 33, 3) := by decide +kernel
theorem d_method_5_121 : decode method_5_code 121 = .ok (.ifCond .ne 14, 3) := by decide +kernel
theorem d_method_5_124 : decode method_5_code 124 = .ok (.aload_n 1, 1) := by decide +kernel
theorem d_method_5_125 : decode method_5_code 125 = .ok (.aload_n 2, 1) := by decide +kernel
theorem d_method_5_126 : decode method_5_code 126 = .ok (.iconst 4, 1) := by decide +kernel
theorem d_method_5_127 : decode method_5_code 127 = .ok (.iload 4, 2) := by decide +kernel
theorem d_method_5_129 : decode method_5_code 129 = .ok (.invokestatic 33, 3) := by decide +kernel
theorem d_method_5_132 : decode method_5_code 132 = .ok (.ifCond .eq 5, 3) := by decide +kernel
theorem d_method_5_137 : decode method_5_code 137 = .ok (.aload_n 2, 1) := by decide +kernel
theorem d_method_5_138 : decode method_5_code 138 = .ok (.iload 4, 2) := by decide +kernel
theorem d_method_5_140 : decode method_5_code 140 = .ok (.iconst 0, 1) := by decide +kernel
theorem d_method_5_141 : decode method_5_code 141 = .ok (.bastore, 1) := by decide +kernel
theorem d_method_5_142 : decode method_5_code 142 = .ok (.iconst 1, 1) := by decide +kernel
theorem d_method_5_143 : decode method_5_code 143 = .ok (.ireturn, 1) := by decide +kernel
theorem d_prog_2_method_10_0 : decode prog_2_method_10_code 0 = .ok (.aload_n 0, 1) := by decide +kernel
theorem d_prog_2_method_10_1 : decode prog_2_method_10_code 1 = .ok (.getfield 21, 3) := by decide +kernel
theorem d_prog_2_method_10_4 : decode prog_2_method_10_code 4 = .ok (.iload_n 2, 1) := by decide +kernel
theorem d_prog_2_method_10_5 : decode prog_2_method_10_code 5 = .ok (.iload_n 1, 1) := by decide +kernel
theorem d_prog_2_method_10_6 : decode prog_2_method_10_code 6 = .ok (.iastore, 1) := by decide +kernel
theorem d_prog_2_method_10_7 : decode prog_2_method_10_code 7 = .ok (.aload_n 0, 1) := by decide +kernel
theorem d_prog_2_method_10_8 : decode prog_2_method_10_code 8 = .ok (.getfield 25, 3) := by decide +kernel
theorem d_prog_2_method_10_11 : decode prog_2_method_10_code 11 = .ok (.iload_n 1, 1) := by decide +kernel
theorem d_prog_2_method_10_12 : decode prog_2_method_10_code 12 = .ok (.iload_n 2, 1) := by decide +kernel
theorem d_prog_2_method_10_13 : decode prog_2_method_10_code 13 = .ok (.iastore, 1) := by decide +kernel
theorem d_prog_2_method_10_14 : decode prog_2_method_10_code 14 = .ok (.return_, 1) := by decide +kernel
theorem d_prog_2_method_1_0 : decode prog_2_method_1_code 0 = .ok (.aload_n 0, 1) := by decide +kernel
theorem d_prog_2_method_1_1 : decode prog_2_method_1_code 1 = .ok (.invokespecial 1, 3) := by decide +kernel
theorem d_prog_2_method_1_4 : decode prog_2_method_1_code 4 = .ok (.aload_n 0, 1) := by decide +kernel
theorem d_prog_2_method_1_5 : decode prog_2_method_1_code 5 = .ok (.dconst 1, 1) := by decide +kernel
theorem d_prog_2_method_1_6 : decode prog_2_method_1_code 6 = .ok (.putfield 7, 3) := by decide +kernel
theorem d_prog_2_method_1_9 : decode prog_2_method_1_code 9 = .ok (.aload_n 0, 1) := by decide +kernel
theorem d_prog_2_method_1_10 : decode prog_2_method_1_code 10 = .ok (.iload_n 1, 1) := by decide +kernel
theorem d_prog_2_method_1_11 : decode prog_2_method_1_code 11 = .ok (.putfield 13, 3) := by decide +kernel
theorem d_prog_2_method_1_14 : decode prog_2_method_1_code 14 = .ok (.return_, 1) := by decide +kernel
theorem d_prog_2_method_2_0 : decode prog_2_method_2_code 0 = .ok (.aload_n 0, 1) := by decide +kernel
theorem d_prog_2_method_2_1 : decode prog_2_method_2_code 1 = .ok (.getfield 17, 3) := by decide +kernel
theorem d_prog_2_method_2_4 : decode prog_2_method_2_code 4 = .ok (.ifnonnull 41, 3) := by decide +kernel
theorem d_prog_2_method_2_7 : decode prog_2_method_2_code 7 = .ok (.aload_n 0, 1) := by decide +kernel
theorem d_prog_2_method_2_8 : decode prog_2_method_2_code 8 = .ok (.aload_n 0, 1) := by decide +kernel
theorem d_prog_2_method_2_9 : decode prog_2_method_2_code 9 = .ok (.getfield 13, 3) := by decide +kernel
theorem d_prog_2_method_2_12 : decode prog_2_method_2_code 12 = .ok (.newarray .double, 2) := by decide +kernel
theorem d_prog_2_method_2_14 : decode prog_2_method_2_code 14 = .ok (.putfield 17, 3) := by decide +kernel
theorem d_prog_2_method_2_17 : decode prog_2_method_2_code 17 = .ok (.aload_n 0, 1) := by decide +kernel
theorem d_prog_2_method_2_18 : decode prog_2_method_2_code 18 = .ok (.aload_n 0, 1) := by decide +kernel
theorem d_prog_2_method_2_19 : decode prog_2_method_2_code 19 = .ok (.getfield 13, 3) := by decide +kernel
theorem d_prog_2_method_2_22 : decode prog_2_method_2_code 22 = .ok (.newarray .int, 2) := by decide +kernel
theorem d_prog_2_method_2_24 : decode prog_2_method_2_code 24 = .ok (.putfield 21, 3) := by decide +kernel
theorem d_prog_2_method_2_27 : decode prog_2_method_2_code 27 = .ok (.aload_n 0, 1) := by decide +kernel
theorem d_prog_2_method_2_28 : decode prog_2_method_2_code 28 = .ok (.aload_n 0, 1) := by decide +kernel
theorem d_prog_2_method_2_29 : decode prog_2_method_2_code 29 = .ok (.getfield 13, 3) := by decide +kernel
theorem d_prog_2_method_2_32 : decode prog_2_method_2_code 32 = .ok (.newarray .int, 2) := by decide +kernel
theorem d_prog_2_method_2_34 : decode prog_2_method_2_code 34 = .ok (.putfield 25, 3) := by decide +kernel
theorem d_prog_2_method_2_37 : decode prog_2_method_2_code 37 = .ok (.aload_n 0, 1) := by decide +kernel
theorem d_prog_2_method_2_38 : decode prog_2_method_2_code 38 = .ok (.getfield 25, 3) := by decide +kernel
theorem d_prog_2_method_2_41 : decode prog_2_method_2_code 41 = .ok (.iconst (-1), 1) := by decide +kernel
theorem d_prog_2_method_2_42 : decode prog_2_method_2_code 42 = .ok (.invokestatic 28, 3) := by decide +kernel
theorem d_prog_2_method_2_45 : decode prog_2_method_2_code 45 = .ok (.aload_n 0, 1) := by decide +kernel
theorem d_prog_2_method_2_46 : decode prog_2_method_2_code 46 = .ok (.getfield 17, 3) := by decide +kernel
theorem d_prog_2_method_2_49 : decode prog_2_method_2_code 49 = .ok (.iload_n 1, 1) := by decide +kernel
theorem d_prog_2_method_2_50 : decode prog_2_method_2_code 50 = .ok (.dup2, 1) := by decide +kernel
theorem d_prog_2_method_2_51 : decode prog_2_method_2_code 51 = .ok (.daload, 1) := by decide +kernel
theorem d_prog_2_method_2_52 : decode prog_2_method_2_code 52 = .ok (.aload_n 0, 1) := by decide +kernel
theorem d_prog_2_method_2_53 : decode prog_2_method_2_code 53 = .ok (.getfield 7, 3) := by decide +kernel
theorem d_prog_2_method_2_56 : decode prog_2_method_2_code 56 = .ok (.dadd, 1) := by decide +kernel
theorem d_prog_2_method_2_57 : decode prog_2_method_2_code 57 = .ok (.dastore, 1) := by decide +kernel
theorem d_prog_2_method_2_58 : decode prog_2_method_2_code 58 = .ok (.aload_n 0, 1) := by decide +kernel
theorem d_prog_2_method_2_59 : decode prog_2_method_2_code 59 = .ok (.getfield 17, 3) := by decide +kernel
theorem d_prog_2_method_2_62 : decode prog_2_method_2_code 62 = .ok (.iload_n 1, 1) := by decide +kernel
theorem d_prog_2_method_2_63 : decode prog_2_method_2_code 63 = .ok (.daload, 1) := by decide +kernel
theorem d_prog_2_method_2_64 : decode prog_2_method_2_code 64 = .ok (.ldc2_w 34, 3) := by decide +kernel
theorem d_prog_2_method_2_67 : decode prog_2_method_2_code 67 = .ok (.dcmp .l, 1) := by decide +kernel
theorem d_prog_2_method_2_68 : decode prog_2_method_2_code 68 = .ok (.ifCond .le 7, 3) := by decide +kernel
theorem d_prog_2_method_2_75 : decode prog_2_method_2_code 75 = .ok (.aload_n 0, 1) := by decide +kernel
theorem d_prog_2_method_2_76 : decode prog_2_method_2_code 76 = .ok (.getfield 25, 3) := by decide +kernel
theorem d_prog_2_method_2_79 : decode prog_2_method_2_code 79 = .ok (.iload_n 1, 1) := by decide +kernel
theorem d_prog_2_method_2_80 : decode prog_2_method_2_code 80 = .ok (.iaload, 1) := by decide +kernel
theorem d_prog_2_method_2_81 : decode prog_2_method_2_code 81 = .ok (.iconst (-1), 1) := by decide +kernel
theorem d_prog_2_method_2_82 : decode prog_2_method_2_code 82 = .ok (.if_icmp .ne 11, 3) := by decide +kernel
theorem d_prog_2_method_2_85 : decode prog_2_method_2_code 85 = .ok (.aload_n 0, 1) := by decide +kernel
theorem d_prog_2_method_2_86 : decode prog_2_method_2_code 86 = .ok (.iload_n 1, 1) := by decide +kernel
theorem d_prog_2_method_2_87 : decode prog_2_method_2_code 87 = .ok (.invokevirtual 39, 3) := by decide +kernel
theorem d_prog_2_method_2_90 : decode prog_2_method_2_code 90 = .ok (.goto 13, 3) := by decide +kernel
theorem d_prog_2_method_2_93 : decode prog_2_method_2_code 93 = .ok (.aload_n 0, 1) := by decide +kernel
theorem d_prog_2_method_2_94 : decode prog_2_method_2_code 94 = .ok (.aload_n 0, 1) := by decide +kernel
theorem d_prog_2_method_2_95 : decode prog_2_method_2_code 95 = .ok (.getfield 25, 3) := by decide +kernel
theorem d_prog_2_method_2_98 : decode prog_2_method_2_code 98 = .ok (.iload_n 1, 1) := by decide +kernel
theorem d_prog_2_method_2_99 : decode prog_2_method_2_code 99 = .ok (.iaload, 1) := by decide +kernel
theorem d_prog_2_method_2_100 : decode prog_2_method_2_code 100 = .ok (.invokevirtual 43, 3) := by decide +kernel
theorem d_prog_2_method_2_103 : decode prog_2_method_2_code 103 = .ok (.return_, 1) := by decide +kernel
theorem d_prog_2_method_4_0 : decode prog_2_method_4_code 0 = .ok (.aload_n 0, 1) := by decide +kernel
theorem d_prog_2_method_4_1 : decode prog_2_method_4_code 1 = .ok (.getfield 48, 3) := by decide +kernel
theorem d_prog_2_method_4_4 : decode prog_2_method_4_code 4 = .ok (.ifCond .ne 7, 3) := by decide +kernel
theorem d_prog_2_method_4_7 : decode prog_2_method_4_code 7 = .ok (.iconst 1, 1) := by decide +kernel
theorem d_prog_2_method_4_8 : decode prog_2_method_4_code 8 = .ok (.goto 4, 3) := by decide +kernel
theorem d_prog_2_method_4_11 : decode prog_2_method_4_code 11 = .ok (.iconst 0, 1) := by decide +kernel
theorem d_prog_2_method_4_12 : decode prog_2_method_4_code 12 = .ok (.ireturn, 1) := by decide +kernel
theorem d_prog_2_method_5_0 : decode prog_2_method_5_code 0 = .ok (.aload_n 0, 1) := by decide +kernel
theorem d_prog_2_method_5_1 : decode prog_2_method_5_code 1 = .ok (.getfield 21, 3) := by decide +kernel
theorem d_prog_2_method_5_4 : decode prog_2_method_5_code 4 = .ok (.iconst 0, 1) := by decide +kernel
theorem d_prog_2_method_5_5 : decode prog_2_method_5_code 5 = .ok (.iaload, 1) := by decide +kernel
theorem d_prog_2_method_5_6 : decode prog_2_method_5_code 6 = .ok (.istore_n 1, 1) := by decide +kernel
theorem d_prog_2_method_5_7 : decode prog_2_method_5_code 7 = .ok (.aload_n 0, 1) := by decide +kernel
theorem d_prog_2_method_5_8 : decode prog_2_method_5_code 8 = .ok (.getfield 25, 3) := by decide +kernel
theorem d_prog_2_method_5_11 : decode prog_2_method_5_code 11 = .ok (.iload_n 1, 1) := by decide +kernel
theorem d_prog_2_method_5_12 : decode prog_2_method_5_code 12 = .ok (.iconst (-1), 1) := by decide +kernel
theorem d_prog_2_method_5_13 : decode prog_2_method_5_code 13 = .ok (.iastore, 1) := by decide +kernel
theorem d_prog_2_method_5_14 : decode prog_2_method_5_code 14 = .ok (.aload_n 0, 1) := by decide +kernel
theorem d_prog_2_method_5_15 : decode prog_2_method_5_code 15 = .ok (.dup, 1) := by decide +kernel
theorem d_prog_2_method_5_16 : decode prog_2_method_5_code 16 = .ok (.getfield 48, 3) := by decide +kernel
theorem d_prog_2_method_5_19 : decode prog_2_method_5_code 19 = .ok (.iconst 1, 1) := by decide +kernel
theorem d_prog_2_method_5_20 : decode prog_2_method_5_code 20 = .ok (.isub, 1) := by decide +kernel
theorem d_prog_2_method_5_21 : decode prog_2_method_5_code 21 = .ok (.putfield 48, 3) := by decide +kernel
theorem d_prog_2_method_5_24 : decode prog_2_method_5_code 24 = .ok (.aload_n 0, 1) := by decide +kernel
theorem d_prog_2_method_5_25 : decode prog_2_method_5_code 25 = .ok (.getfield 48, 3) := by decide +kernel
theorem d_prog_2_method_5_28 : decode prog_2_method_5_code 28 = .ok (.ifCond .le 22, 3) := by decide +kernel
theorem d_prog_2_method_5_31 : decode prog_2_method_5_code 31 = .ok (.aload_n 0, 1) := by decide +kernel
theorem d_prog_2_method_5_32 : decode prog_2_method_5_code 32 = .ok (.aload_n 0, 1) := by decide +kernel
theorem d_prog_2_method_5_33 : decode prog_2_method_5_code 33 = .ok (.getfield 21, 3) := by decide +kernel
theorem d_prog_2_method_5_36 : decode prog_2_method_5_code 36 = .ok (.aload_n 0, 1) := by decide +kernel
theorem d_prog_2_method_5_37 : decode prog_2_method_5_code 37 = .ok (.getfield 48, 3) := by decide +kernel
theorem d_prog_2_method_5_40 : decode prog_2_method_5_code 40 = .ok (.iaload, 1) := by decide +kernel
theorem d_prog_2_method_5_41 : decode prog_2_method_5_code 41 = .ok (.iconst 0, 1) := by decide +kernel
theorem d_prog_2_method_5_42 : decode prog_2_method_5_code 42 = .ok (.invokevirtual 51, 3) := by decide +kernel
theorem d_prog_2_method_5_45 : decode prog_2_method_5_code 45 = .ok (.aload_n 0, 1) := by decide +kernel
theorem d_prog_2_method_5_46 : decode prog_2_method_5_code 46 = .ok (.iconst 0, 1) := by decide +kernel
theorem d_prog_2_method_5_47 : decode prog_2_method_5_code 47 = .ok (.invokevirtual 55, 3) := by decide +kernel
theorem d_prog_2_method_5_50 : decode prog_2_method_5_code 50 = .ok (.iload_n 1, 1) := by decide +kernel
theorem d_prog_2_method_5_51 : decode prog_2_method_5_code 51 = .ok (.ireturn, 1) := by decide +kernel
theorem d_prog_2_method_6_0 : decode prog_2_method_6_code 0 = .ok (.aload_n 0, 1) := by decide +kernel
theorem d_prog_2_method_6_1 : decode prog_2_method_6_code 1 = .ok (.iload_n 1, 1) := by decide +kernel
theorem d_prog_2_method_6_2 : decode prog_2_method_6_code 2 = .ok (.aload_n 0, 1) := by decide +kernel
theorem d_prog_2_method_6_3 : decode prog_2_method_6_code 3 = .ok (.dup, 1) := by decide +kernel
theorem d_prog_2_method_6_4 : decode prog_2_method_6_code 4 = .ok (.getfield 48, 3) := by decide +kernel
theorem d_prog_2_method_6_7 : decode prog_2_method_6_code 7 = .ok (.dup_x1, 1) := by decide +kernel
theorem d_prog_2_method_6_8 : decode prog_2_method_6_code 8 = .ok (.iconst 1, 1) := by decide +kernel
theorem d_prog_2_method_6_9 : decode prog_2_method_6_code 9 = .ok (.iadd, 1) := by decide +kernel
theorem d_prog_2_method_6_10 : decode prog_2_method_6_code 10 = .ok (.putfield 48, 3) := by decide +kernel
theorem d_prog_2_method_6_13 : decode prog_2_method_6_code 13 = .ok (.invokevirtual 51, 3) := by decide +kernel
theorem d_prog_2_method_6_16 : decode prog_2_method_6_code 16 = .ok (.aload_n 0, 1) := by decide +kernel
theorem d_prog_2_method_6_17 : decode prog_2_method_6_code 17 = .ok (.aload_n 0, 1) := by decide +kernel
theorem d_prog_2_method_6_18 : decode prog_2_method_6_code 18 = .ok (.getfield 48, 3) := by decide +kernel
theorem d_prog_2_method_6_21 : decode prog_2_method_6_code 21 = .ok (.iconst 1, 1) := by decide +kernel
theorem d_prog_2_method_6_22 : decode prog_2_method_6_code 22 = .ok (.isub, 1) := by decide +kernel
theorem d_prog_2_method_6_23 : decode prog_2_method_6_code 23 = .ok (.invokevirtual 43, 3) := by decide +kernel
theorem d_prog_2_method_6_26 : decode prog_2_method_6_code 26 = .ok (.return_, 1) := by decide +kernel
theorem d_prog_2_method_8_0 : decode prog_2_method_8_code 0 = .ok (.aload_n 0, 1) := by decide +kernel
theorem d_prog_2_method_8_1 : decode prog_2_method_8_code 1 = .ok (.getfield 21, 3) := by decide +kernel
theorem d_prog_2_method_8_4 : decode prog_2_method_8_code 4 = .ok (.iload_n 1, 1) := by decide +kernel
theorem d_prog_2_method_8_5 : decode prog_2_method_8_code 5 = .ok (.iaload, 1) := by decide +kernel
theorem d_prog_2_method_8_6 : decode prog_2_method_8_code 6 = .ok (.istore_n 2, 1) := by decide +kernel
theorem d_prog_2_method_8_7 : decode prog_2_method_8_code 7 = .ok (.iload_n 1, 1) := by decide +kernel
theorem d_prog_2_method_8_8 : decode prog_2_method_8_code 8 = .ok (.ifCond .le 52, 3) := by decide +kernel
theorem d_prog_2_method_8_11 : decode prog_2_method_8_code 11 = .ok (.aload_n 0, 1) := by decide +kernel
theorem d_prog_2_method_8_12 : decode prog_2_method_8_code 12 = .ok (.getfield 17, 3) := by decide +kernel
theorem d_prog_2_method_8_15 : decode prog_2_method_8_code 15 = .ok (.aload_n 0, 1) := by decide +kernel
theorem d_prog_2_method_8_16 : decode prog_2_method_8_code 16 = .ok (.getfield 21, 3) := by decide +kernel
theorem d_prog_2_method_8_19 : decode prog_2_method_8_code 19 = .ok (.iload_n 1, 1) := by decide +kernel
theorem d_prog_2_method_8_20 : decode prog_2_method_8_code 20 = .ok (.iconst 1, 1) := by decide +kernel
theorem d_prog_2_method_8_21 : decode prog_2_method_8_code 21 = .ok (.isub, 1) := by decide +kernel
theorem d_prog_2_method_8_22 : decode prog_2_method_8_code 22 = .ok (.iconst 2, 1) := by decide +kernel
theorem d_prog_2_method_8_23 : decode prog_2_method_8_code 23 = .ok (.idiv, 1) := by decide +kernel
theorem d_prog_2_method_8_24 : decode prog_2_method_8_code 24 = .ok (.iaload, 1) := by decide +kernel
theorem d_prog_2_method_8_25 : decode prog_2_method_8_code 25 = .ok (.daload, 1) := by decide +kernel
theorem d_prog_2_method_8_26 : decode prog_2_method_8_code 26 = .ok (.aload_n 0, 1) := by decide +kernel
theorem d_prog_2_method_8_27 : decode prog_2_method_8_code 27 = .ok (.getfield 17, 3) := by decide +kernel
theorem d_prog_2_method_8_30 : decode prog_2_method_8_code 30 = .ok (.iload_n 2, 1) := by decide +kernel
theorem d_prog_2_method_8_31 : decode prog_2_method_8_code 31 = .ok (.daload, 1) := by decide +kernel
theorem d_prog_2_method_8_32 : decode prog_2_method_8_code 32 = .ok (.dcmp .g, 1) := by decide +kernel
theorem d_prog_2_method_8_33 : decode prog_2_method_8_code 33 = .ok (.ifCond .ge 27, 3) := by decide +kernel
theorem d_prog_2_method_8_36 : decode prog_2_method_8_code 36 = .ok (.aload_n 0, 1) := by decide +kernel
theorem d_prog_2_method_8_37 : decode prog_2_method_8_code 37 = .ok (.aload_n 0, 1) := by decide +kernel
theorem d_prog_2_method_8_38 : decode prog_2_method_8_code 38 = .ok (.getfield 21, 3) := by decide +kernel
theorem d_prog_2_method_8_41 : decode prog_2_method_8_code 41 = .ok (.iload_n 1, 1) := by decide +kernel
theorem d_prog_2_method_8_42 : decode prog_2_method_8_code 42 = .ok (.iconst 1, 1) := by decide +kernel
theorem d_prog_2_method_8_43 : decode prog_2_method_8_code 43 = .ok (.isub, 1) := by decide +kernel
theorem d_prog_2_method_8_44 : decode prog_2_method_8_code 44 = .ok (.iconst 2, 1) := by decide +kernel
theorem d_prog_2_method_8_45 : decode prog_2_method_8_code 45 = .ok (.idiv, 1) := by decide +kernel
theorem d_prog_2_method_8_46 : decode prog_2_method_8_code 46 = .ok (.iaload, 1) := by decide +kernel
theorem d_prog_2_method_8_47 : decode prog_2_method_8_code 47 = .ok (.iload_n 1, 1) := by decide +kernel
theorem d_prog_2_method_8_48 : decode prog_2_method_8_code 48 = .ok (.invokevirtual 51, 3) := by decide +kernel
theorem d_prog_2_method_8_51 : decode prog_2_method_8_code 51 = .ok (.iload_n 1, 1) := by decide +kernel
theorem d_prog_2_method_8_52 : decode prog_2_method_8_code 52 = .ok (.iconst 1, 1) := by decide +kernel
theorem d_prog_2_method_8_53 : decode prog_2_method_8_code 53 = .ok (.isub, 1) := by decide +kernel
theorem d_prog_2_method_8_54 : decode prog_2_method_8_code 54 = .ok (.iconst 2, 1) := by decide +kernel
theorem d_prog_2_method_8_55 : decode prog_2_method_8_code 55 = .ok (.idiv, 1) := by decide +kernel
theorem d_prog_2_method_8_56 : decode prog_2_method_8_code 56 = .ok (.istore_n 1, 1) := by decide +kernel
theorem d_prog_2_method_8_57 : decode prog_2_method_8_code 57 = .ok (.goto (-50), 3) := by decide +kernel
theorem d_prog_2_method_8_60 : decode prog_2_method_8_code 60 = .ok (.aload_n 0, 1) := by decide +kernel
theorem d_prog_2_method_8_61 : decode prog_2_method_8_code 61 = .ok (.iload_n 2, 1) := by decide +kernel
theorem d_prog_2_method_8_62 : decode prog_2_method_8_code 62 = .ok (.iload_n 1, 1) := by decide +kernel
theorem d_prog_2_method_8_63 : decode prog_2_method_8_code 63 = .ok (.invokevirtual 51, 3) := by decide +kernel
theorem d_prog_2_method_8_66 : decode prog_2_method_8_code 66 = .ok (.return_, 1) := by decide +kernel
theorem d_prog_2_method_9_0 : decode prog_2_method_9_code 0 = .ok (.aload_n 0, 1) := by decide +kernel
theorem d_prog_2_method_9_1 : decode prog_2_method_9_code 1 = .ok (.getfield 21, 3) := by decide +kernel
theorem d_prog_2_method_9_4 : decode prog_2_method_9_code 4 = .ok (.iload_n 1, 1) := by decide +kernel
theorem d_prog_2_method_9_5 : decode prog_2_method_9_code 5 = .ok (.iaload, 1) := by decide +kernel
theorem d_prog_2_method_9_6 : decode prog_2_method_9_code 6 = .ok (.istore_n 2, 1) := by decide +kernel
theorem d_prog_2_method_9_7 : decode prog_2_method_9_code 7 = .ok (.iconst 2, 1) := by decide +kernel
theorem d_prog_2_method_9_8 : decode prog_2_method_9_code 8 = .ok (.iload_n 1, 1) := by decide +kernel
theorem d_prog_2_method_9_9 : decode prog_2_method_9_code 9 = .ok (.imul, 1) := by decide +kernel
theorem d_prog_2_method_9_10 : decode prog_2_method_9_code 10 = .ok (.iconst 1, 1) := by decide +kernel
theorem d_prog_2_method_9_11 : decode prog_2_method_9_code 11 = .ok (.iadd, 1) := by decide +kernel
theorem d_prog_2_method_9_12 : decode prog_2_method_9_code 12 = .ok (.aload_n 0, 1) := by decide +kernel
theorem d_prog_2_method_9_13 : decode prog_2_method_9_code 13 = .ok (.getfield 48, 3) := by decide +kernel
theorem d_prog_2_method_9_16 : decode prog_2_method_9_code 16 = .ok (.if_icmp .ge 90, 3) := by decide +kernel
theorem d_prog_2_method_9_19 : decode prog_2_method_9_code 19 = .ok (.iconst 2, 1) := by decide +kernel
theorem d_prog_2_method_9_20 : decode prog_2_method_9_code 20 = .ok (.iload_n 1, 1) := by decide +kernel
theorem d_prog_2_method_9_21 : decode prog_2_method_9_code 21 = .ok (.imul, 1) := by decide +kernel
theorem d_prog_2_method_9_22 : decode prog_2_method_9_code 22 = .ok (.iconst 1, 1) := by decide +kernel
theorem d_prog_2_method_9_23 : decode prog_2_method_9_code 23 = .ok (.iadd, 1) := by decide +kernel
theorem d_prog_2_method_9_24 : decode prog_2_method_9_code 24 = .ok (.istore_n 3, 1) := by decide +kernel
theorem d_prog_2_method_9_25 : decode prog_2_method_9_code 25 = .ok (.iload_n 3, 1) := by decide +kernel
theorem d_prog_2_method_9_26 : decode prog_2_method_9_code 26 = .ok (.iconst 1, 1) := by decide +kernel
theorem d_prog_2_method_9_27 : decode prog_2_method_9_code 27 = .ok (.iadd, 1) := by decide +kernel
theorem d_prog_2_method_9_28 : decode prog_2_method_9_code 28 = .ok (.aload_n 0, 1) := by decide +kernel
theorem d_prog_2_method_9_29 : decode prog_2_method_9_code 29 = .ok (.getfield 48, 3) := by decide +kernel
theorem d_prog_2_method_9_32 : decode prog_2_method_9_code 32 = .ok (.if_icmp .ge 34, 3) := by decide +kernel
theorem d_prog_2_method_9_35 : decode prog_2_method_9_code 35 = .ok (.aload_n 0, 1) := by decide +kernel
theorem d_prog_2_method_9_36 : decode prog_2_method_9_code 36 = .ok (.getfield 17, 3) := by decide +kernel
theorem d_prog_2_method_9_39 : decode prog_2_method_9_code 39 = .ok (.aload_n 0, 1) := by decide +kernel
theorem d_prog_2_method_9_40 : decode prog_2_method_9_code 40 = .ok (.getfield 21, 3) := by decide +kernel
theorem d_prog_2_method_9_43 : decode prog_2_method_9_code 43 = .ok (.iload_n 3, 1) := by decide +kernel
theorem d_prog_2_method_9_44 : decode prog_2_method_9_code 44 = .ok (.iconst 1, 1) := by decide +kernel
theorem d_prog_2_method_9_45 : decode prog_2_method_9_code 45 = .ok (.iadd, 1) := by decide +kernel
theorem d_prog_2_method_9_46 : decode prog_2_method_9_code 46 = .ok (.iaload, 1) := by decide +kernel
theorem d_prog_2_method_9_47 : decode prog_2_method_9_code 47 = .ok (.daload, 1) := by decide +kernel
theorem d_prog_2_method_9_48 : decode prog_2_method_9_code 48 = .ok (.aload_n 0, 1) := by decide +kernel
theorem d_prog_2_method_9_49 : decode prog_2_method_9_code 49 = .ok (.getfield 17, 3) := by decide +kernel
theorem d_prog_2_method_9_52 : decode prog_2_method_9_code 52 = .ok (.aload_n 0, 1) := by decide +kernel
theorem d_prog_2_method_9_53 : decode prog_2_method_9_code 53 = .ok (.getfield 21, 3) := by decide +kernel
theorem d_prog_2_method_9_56 : decode prog_2_method_9_code 56 = .ok (.iload_n 3, 1) := by decide +kernel
theorem d_prog_2_method_9_57 : decode prog_2_method_9_code 57 = .ok (.iaload, 1) := by decide +kernel
theorem d_prog_2_method_9_58 : decode prog_2_method_9_code 58 = .ok (.daload, 1) := by decide +kernel
theorem d_prog_2_method_9_59 : decode prog_2_method_9_code 59 = .ok (.dcmp .l, 1) := by decide +kernel
theorem d_prog_2_method_9_60 : decode prog_2_method_9_code 60 = .ok (.ifCond .le 6, 3) := by decide +kernel
theorem d_prog_2_method_9_63 : decode prog_2_method_9_code 63 = .ok (.iinc 3 1, 3) := by decide +kernel
theorem d_prog_2_method_9_66 : decode prog_2_method_9_code 66 = .ok (.aload_n 0, 1) := by decide +kernel
theorem d_prog_2_method_9_67 : decode prog_2_method_9_code 67 = .ok (.getfield 17, 3) := by decide +kernel
theorem d_prog_2_method_9_70 : decode prog_2_method_9_code 70 = .ok (.aload_n 0, 1) := by decide +kernel
theorem d_prog_2_method_9_71 : decode prog_2_method_9_code 71 = .ok (.getfield 21, 3) := by decide +kernel
theorem d_prog_2_method_9_74 : decode prog_2_method_9_code 74 = .ok (.iload_n 3, 1) := by decide +kernel
theorem d_prog_2_method_9_75 : decode prog_2_method_9_code 75 = .ok (.iaload, 1) := by decide +kernel
theorem d_prog_2_method_9_76 : decode prog_2_method_9_code 76 = .ok (.daload, 1) := by decide +kernel
theorem d_prog_2_method_9_77 : decode prog_2_method_9_code 77 = .ok (.aload_n 0, 1) := by decide +kernel
theorem d_prog_2_method_9_78 : decode prog_2_method_9_code 78 = .ok (.getfield 17, 3) := by decide +kernel
theorem d_prog_2_method_9_81 : decode prog_2_method_9_code 81 = .ok (.iload_n 2, 1) := by decide +kernel
theorem d_prog_2_method_9_82 : decode prog_2_method_9_code 82 = .ok (.daload, 1) := by decide +kernel
theorem d_prog_2_method_9_83 : decode prog_2_method_9_code 83 = .ok (.dcmp .g, 1) := by decide +kernel
theorem d_prog_2_method_9_84 : decode prog_2_method_9_code 84 = .ok (.ifCond .gt 6, 3) := by decide +kernel
theorem d_prog_2_method_9_87 : decode prog_2_method_9_code 87 = .ok (.goto 19, 3) := by decide +kernel
theorem d_prog_2_method_9_90 : decode prog_2_method_9_code 90 = .ok (.aload_n 0, 1) := by decide +kernel
theorem d_prog_2_method_9_91 : decode prog_2_method_9_code 91 = .ok (.aload_n 0, 1) := by decide +kernel
theorem d_prog_2_method_9_92 : decode prog_2_method_9_code 92 = .ok (.getfield 21, 3) := by decide +kernel
theorem d_prog_2_method_9_95 : decode prog_2_method_9_code 95 = .ok (.iload_n 3, 1) := by decide +kernel
theorem d_prog_2_method_9_96 : decode prog_2_method_9_code 96 = .ok (.iaload, 1) := by decide +kernel
theorem d_prog_2_method_9_97 : decode prog_2_method_9_code 97 = .ok (.iload_n 1, 1) := by decide +kernel
theorem d_prog_2_method_9_98 : decode prog_2_method_9_code 98 = .ok (.invokevirtual 51, 3) := by decide +kernel
theorem d_prog_2_method_9_101 : decode prog_2_method_9_code 101 = .ok (.iload_n 3, 1) := by decide +kernel
theorem d_prog_2_method_9_102 : decode prog_2_method_9_code 102 = .ok (.istore_n 1, 1) := by decide +kernel
theorem d_prog_2_method_9_103 : decode prog_2_method_9_code 103 = .ok (.goto (-96), 3) := by decide +kernel
theorem d_prog_2_method_9_106 : decode prog_2_method_9_code 106 = .ok (.aload_n 0, 1) := by decide +kernel
theorem d_prog_2_method_9_107 : decode prog_2_method_9_code 107 = .ok (.iload_n 2, 1) := by decide +kernel
theorem d_prog_2_method_9_108 : decode prog_2_method_9_code 108 = .ok (.iload_n 1, 1) := by decide +kernel
theorem d_prog_2_method_9_109 : decode prog_2_method_9_code 109 = .ok (.invokevirtual 51, 3) := by decide +kernel
theorem d_prog_2_method_9_112 : decode prog_2_method_9_code 112 = .ok (.return_, 1) := by decide +kernel
theorem wd0 {a0 : Array Value} {Z : State} (hw : ∀ d ∈ tables_1, d.before a0 Z = true) : Jvm.Cond.before (Jvm.Cond.classLink "com/example/sightline/sightline/checker/ByActivityPopPinLaw" (7 : Nat) "com/example/sightline/sightline/checker/ByActivity") a0 Z = true := hw _ (List.mem_of_getElem? (i := 0) rfl)
theorem wd1 {a0 : Array Value} {Z : State} (hw : ∀ d ∈ tables_1, d.before a0 Z = true) : Jvm.Cond.before (Jvm.Cond.instantiable "com/example/sightline/sightline/checker/ByActivity" (6 : Nat)) a0 Z = true := hw _ (List.mem_of_getElem? (i := 1) rfl)
theorem wd2 {a0 : Array Value} {Z : State} (hw : ∀ d ∈ tables_1, d.before a0 Z = true) : Jvm.Cond.before (Jvm.Cond.initialized "com/example/sightline/sightline/checker/ByActivity") a0 Z = true := hw _ (List.mem_of_getElem? (i := 2) rfl)
theorem wd3 {a0 : Array Value} {Z : State} (hw : ∀ d ∈ tables_1, d.before a0 Z = true) : Jvm.Cond.before (Jvm.Cond.methodLink "com/example/sightline/sightline/checker/ByActivityPopPinLaw" (9 : Nat) ({ cls := "com/example/sightline/sightline/checker/ByActivity", name := "<init>", desc := "(I)V" } : Jvm.MethodName)) a0 Z = true := hw _ (List.mem_of_getElem? (i := 3) rfl)
theorem wd4 {a0 : Array Value} {Z : State} (hw : ∀ d ∈ tables_1, d.before a0 Z = true) : Jvm.Cond.before (Jvm.Cond.instanceMethod ({ cls := "com/example/sightline/sightline/checker/ByActivity", name := "<init>", desc := "(I)V" } : Jvm.MethodName)) a0 Z = true := hw _ (List.mem_of_getElem? (i := 4) rfl)
theorem wd5 {a0 : Array Value} {Z : State} (hw : ∀ d ∈ tables_1, d.before a0 Z = true) : Jvm.Cond.before (Jvm.Cond.code ({ cls := "com/example/sightline/sightline/checker/ByActivity", name := "<init>", desc := "(I)V" } : Jvm.MethodName) prog_2_method_1_code (2 : Nat) (Option.none : Option Jvm.ClassFile.FieldType)) a0 Z = true := hw _ (List.mem_of_getElem? (i := 5) rfl)
theorem wd6 {a0 : Array Value} {Z : State} (hw : ∀ d ∈ tables_1, d.before a0 Z = true) : Jvm.Cond.before (Jvm.Cond.methodLink "com/example/sightline/sightline/checker/ByActivity" (1 : Nat) ({ cls := "java/lang/Object", name := "<init>", desc := "()V" } : Jvm.MethodName)) a0 Z = true := hw _ (List.mem_of_getElem? (i := 6) rfl)
theorem wd7 {a0 : Array Value} {Z : State} (hw : ∀ d ∈ tables_1, d.before a0 Z = true) : Jvm.Cond.before (Jvm.Cond.instanceMethod ({ cls := "java/lang/Object", name := "<init>", desc := "()V" } : Jvm.MethodName)) a0 Z = true := hw _ (List.mem_of_getElem? (i := 7) rfl)
theorem wd8 {a0 : Array Value} {Z : State} (hw : ∀ d ∈ tables_1, d.before a0 Z = true) : Jvm.Cond.before (Jvm.Cond.code ({ cls := "java/lang/Object", name := "<init>", desc := "()V" } : Jvm.MethodName) object_method_1_code (1 : Nat) (Option.none : Option Jvm.ClassFile.FieldType)) a0 Z = true := hw _ (List.mem_of_getElem? (i := 8) rfl)
theorem wd9 {a0 : Array Value} {Z : State} (hw : ∀ d ∈ tables_1, d.before a0 Z = true) : Jvm.Cond.before (Jvm.Cond.fieldLink "com/example/sightline/sightline/checker/ByActivity" (7 : Nat) "com/example/sightline/sightline/checker/ByActivity" "gain" "D") a0 Z = true := hw _ (List.mem_of_getElem? (i := 9) rfl)
theorem wd10 {a0 : Array Value} {Z : State} (hw : ∀ d ∈ tables_1, d.before a0 Z = true) : Jvm.Cond.before (Jvm.Cond.lays "com/example/sightline/sightline/checker/ByActivity" "com/example/sightline/sightline/checker/ByActivity" "gain" "D") a0 Z = true := hw _ (List.mem_of_getElem? (i := 10) rfl)
theorem wd11 {a0 : Array Value} {Z : State} (hw : ∀ d ∈ tables_1, d.before a0 Z = true) : Jvm.Cond.before (Jvm.Cond.fieldLink "com/example/sightline/sightline/checker/ByActivity" (13 : Nat) "com/example/sightline/sightline/checker/ByActivity" "choices" "I") a0 Z = true := hw _ (List.mem_of_getElem? (i := 11) rfl)
theorem wd12 {a0 : Array Value} {Z : State} (hw : ∀ d ∈ tables_1, d.before a0 Z = true) : Jvm.Cond.before (Jvm.Cond.laysFinal "com/example/sightline/sightline/checker/ByActivity" "com/example/sightline/sightline/checker/ByActivity" "choices" "I") a0 Z = true := hw _ (List.mem_of_getElem? (i := 12) rfl)
theorem wd13 {a0 : Array Value} {Z : State} (hw : ∀ d ∈ tables_1, d.before a0 Z = true) : Jvm.Cond.before (Jvm.Cond.arrayClass Jvm.ClassFile.FieldType.int) a0 Z = true := hw _ (List.mem_of_getElem? (i := 13) rfl)
theorem wd14 {a0 : Array Value} {Z : State} (hw : ∀ d ∈ tables_1, d.before a0 Z = true) : Jvm.Cond.before (Jvm.Cond.arrayClass Jvm.ClassFile.FieldType.boolean) a0 Z = true := hw _ (List.mem_of_getElem? (i := 14) rfl)
theorem wd15 {a0 : Array Value} {Z : State} (hw : ∀ d ∈ tables_1, d.before a0 Z = true) : Jvm.Cond.before (Jvm.Cond.methodLink "com/example/sightline/sightline/checker/ByActivityPopPinLaw" (12 : Nat) ({ cls := "com/example/sightline/sightline/checker/ByActivityPopPinLaw", name := "bumpIf", desc := "(Lcom/example/sightline/sightline/checker/ByActivity;[I[ZIII)V" } : Jvm.MethodName)) a0 Z = true := hw _ (List.mem_of_getElem? (i := 15) rfl)
theorem wd16 {a0 : Array Value} {Z : State} (hw : ∀ d ∈ tables_1, d.before a0 Z = true) : Jvm.Cond.before (Jvm.Cond.static ({ cls := "com/example/sightline/sightline/checker/ByActivityPopPinLaw", name := "bumpIf", desc := "(Lcom/example/sightline/sightline/checker/ByActivity;[I[ZIII)V" } : Jvm.MethodName)) a0 Z = true := hw _ (List.mem_of_getElem? (i := 16) rfl)
theorem wd17 {a0 : Array Value} {Z : State} (hw : ∀ d ∈ tables_1, d.before a0 Z = true) : Jvm.Cond.before (Jvm.Cond.initialized "com/example/sightline/sightline/checker/ByActivityPopPinLaw") a0 Z = true := hw _ (List.mem_of_getElem? (i := 17) rfl)
theorem wd18 {a0 : Array Value} {Z : State} (hw : ∀ d ∈ tables_1, d.before a0 Z = true) : Jvm.Cond.before (Jvm.Cond.code ({ cls := "com/example/sightline/sightline/checker/ByActivityPopPinLaw", name := "bumpIf", desc := "(Lcom/example/sightline/sightline/checker/ByActivity;[I[ZIII)V" } : Jvm.MethodName) method_3_code (7 : Nat) (Option.none : Option Jvm.ClassFile.FieldType)) a0 Z = true := hw _ (List.mem_of_getElem? (i := 18) rfl)
theorem wd19 {a0 : Array Value} {Z : State} (hw : ∀ d ∈ tables_1, d.before a0 Z = true) : Jvm.Cond.before (Jvm.Cond.methodLink "com/example/sightline/sightline/checker/ByActivityPopPinLaw" (22 : Nat) ({ cls := "com/example/sightline/sightline/checker/ByActivity", name := "bump", desc := "(I)V" } : Jvm.MethodName)) a0 Z = true := hw _ (List.mem_of_getElem? (i := 19) rfl)
theorem wd20 {a0 : Array Value} {Z : State} (hw : ∀ d ∈ tables_1, d.before a0 Z = true) : Jvm.Cond.before (Jvm.Cond.declares ({ cls := "com/example/sightline/sightline/checker/ByActivity", name := "bump", desc := "(I)V" } : Jvm.MethodName)) a0 Z = true := hw _ (List.mem_of_getElem? (i := 20) rfl)
theorem wd21 {a0 : Array Value} {Z : State} (hw : ∀ d ∈ tables_1, d.before a0 Z = true) : Jvm.Cond.before (Jvm.Cond.instanceMethod ({ cls := "com/example/sightline/sightline/checker/ByActivity", name := "bump", desc := "(I)V" } : Jvm.MethodName)) a0 Z = true := hw _ (List.mem_of_getElem? (i := 21) rfl)
theorem wd22 {a0 : Array Value} {Z : State} (hw : ∀ d ∈ tables_1, d.before a0 Z = true) : Jvm.Cond.before (Jvm.Cond.selects "com/example/sightline/sightline/checker/ByActivity" ({ cls := "com/example/sightline/sightline/checker/ByActivity", name := "bump", desc := "(I)V" } : Jvm.MethodName) ({ cls := "com/example/sightline/sightline/checker/ByActivity", name := "bump", desc := "(I)V" } : Jvm.MethodName)) a0 Z = true := hw _ (List.mem_of_getElem? (i := 22) rfl)
theorem wd23 {a0 : Array Value} {Z : State} (hw : ∀ d ∈ tables_1, d.before a0 Z = true) : Jvm.Cond.before (Jvm.Cond.code ({ cls := "com/example/sightline/sightline/checker/ByActivity", name := "bump", desc := "(I)V" } : Jvm.MethodName) prog_2_method_2_code (2 : Nat) (Option.none : Option Jvm.ClassFile.FieldType)) a0 Z = true := hw _ (List.mem_of_getElem? (i := 23) rfl)
theorem wd24 {a0 : Array Value} {Z : State} (hw : ∀ d ∈ tables_1, d.before a0 Z = true) : Jvm.Cond.before (Jvm.Cond.fieldLink "com/example/sightline/sightline/checker/ByActivity" (17 : Nat) "com/example/sightline/sightline/checker/ByActivity" "activity" "[D") a0 Z = true := hw _ (List.mem_of_getElem? (i := 24) rfl)
theorem wd25 {a0 : Array Value} {Z : State} (hw : ∀ d ∈ tables_1, d.before a0 Z = true) : Jvm.Cond.before (Jvm.Cond.lays "com/example/sightline/sightline/checker/ByActivity" "com/example/sightline/sightline/checker/ByActivity" "activity" "[D") a0 Z = true := hw _ (List.mem_of_getElem? (i := 25) rfl)
theorem wd26 {a0 : Array Value} {Z : State} (hw : ∀ d ∈ tables_1, d.before a0 Z = true) : Jvm.Cond.before (Jvm.Cond.arrayClass Jvm.ClassFile.FieldType.double) a0 Z = true := hw _ (List.mem_of_getElem? (i := 26) rfl)
theorem wd27 {a0 : Array Value} {Z : State} (hw : ∀ d ∈ tables_1, d.before a0 Z = true) : Jvm.Cond.before (Jvm.Cond.fieldLink "com/example/sightline/sightline/checker/ByActivity" (21 : Nat) "com/example/sightline/sightline/checker/ByActivity" "heap" "[I") a0 Z = true := hw _ (List.mem_of_getElem? (i := 27) rfl)
theorem wd28 {a0 : Array Value} {Z : State} (hw : ∀ d ∈ tables_1, d.before a0 Z = true) : Jvm.Cond.before (Jvm.Cond.lays "com/example/sightline/sightline/checker/ByActivity" "com/example/sightline/sightline/checker/ByActivity" "heap" "[I") a0 Z = true := hw _ (List.mem_of_getElem? (i := 28) rfl)
theorem wd29 {a0 : Array Value} {Z : State} (hw : ∀ d ∈ tables_1, d.before a0 Z = true) : Jvm.Cond.before (Jvm.Cond.fieldLink "com/example/sightline/sightline/checker/ByActivity" (25 : Nat) "com/example/sightline/sightline/checker/ByActivity" "slot" "[I") a0 Z = true := hw _ (List.mem_of_getElem? (i := 29) rfl)
theorem wd30 {a0 : Array Value} {Z : State} (hw : ∀ d ∈ tables_1, d.before a0 Z = true) : Jvm.Cond.before (Jvm.Cond.lays "com/example/sightline/sightline/checker/ByActivity" "com/example/sightline/sightline/checker/ByActivity" "slot" "[I") a0 Z = true := hw _ (List.mem_of_getElem? (i := 30) rfl)
theorem wd31 {a0 : Array Value} {Z : State} (hw : ∀ d ∈ tables_1, d.before a0 Z = true) : Jvm.Cond.before (Jvm.Cond.methodLink "com/example/sightline/sightline/checker/ByActivity" (28 : Nat) ({ cls := "java/util/Arrays", name := "fill", desc := "([II)V" } : Jvm.MethodName)) a0 Z = true := hw _ (List.mem_of_getElem? (i := 31) rfl)
theorem wd32 {a0 : Array Value} {Z : State} (hw : ∀ d ∈ tables_1, d.before a0 Z = true) : Jvm.Cond.before (Jvm.Cond.static ({ cls := "java/util/Arrays", name := "fill", desc := "([II)V" } : Jvm.MethodName)) a0 Z = true := hw _ (List.mem_of_getElem? (i := 32) rfl)
theorem wd33 {a0 : Array Value} {Z : State} (hw : ∀ d ∈ tables_1, d.before a0 Z = true) : Jvm.Cond.before (Jvm.Cond.initialized "java/util/Arrays") a0 Z = true := hw _ (List.mem_of_getElem? (i := 33) rfl)
theorem wd34 {a0 : Array Value} {Z : State} (hw : ∀ d ∈ tables_1, d.before a0 Z = true) : Jvm.Cond.before (Jvm.Cond.code ({ cls := "java/util/Arrays", name := "fill", desc := "([II)V" } : Jvm.MethodName) jdk_65_method_103_code (4 : Nat) (Option.none : Option Jvm.ClassFile.FieldType)) a0 Z = true := hw _ (List.mem_of_getElem? (i := 34) rfl)
theorem wd35 {a0 : Array Value} {Z : State} (hw : ∀ d ∈ tables_1, d.before a0 Z = true) : Jvm.Cond.before (Jvm.Cond.constantDouble "com/example/sightline/sightline/checker/ByActivity" (34 : Nat) (6103021453049119613 : UInt64)) a0 Z = true := hw _ (List.mem_of_getElem? (i := 35) rfl)
theorem wd36 {a0 : Array Value} {Z : State} (hw : ∀ d ∈ tables_1, d.before a0 Z = true) : Jvm.Cond.before (Jvm.Cond.methodLink "com/example/sightline/sightline/checker/ByActivity" (39 : Nat) ({ cls := "com/example/sightline/sightline/checker/ByActivity", name := "push", desc := "(I)V" } : Jvm.MethodName)) a0 Z = true := hw _ (List.mem_of_getElem? (i := 36) rfl)
theorem wd37 {a0 : Array Value} {Z : State} (hw : ∀ d ∈ tables_1, d.before a0 Z = true) : Jvm.Cond.before (Jvm.Cond.declares ({ cls := "com/example/sightline/sightline/checker/ByActivity", name := "push", desc := "(I)V" } : Jvm.MethodName)) a0 Z = true := hw _ (List.mem_of_getElem? (i := 37) rfl)
theorem wd38 {a0 : Array Value} {Z : State} (hw : ∀ d ∈ tables_1, d.before a0 Z = true) : Jvm.Cond.before (Jvm.Cond.instanceMethod ({ cls := "com/example/sightline/sightline/checker/ByActivity", name := "push", desc := "(I)V" } : Jvm.MethodName)) a0 Z = true := hw _ (List.mem_of_getElem? (i := 38) rfl)
theorem wd39 {a0 : Array Value} {Z : State} (hw : ∀ d ∈ tables_1, d.before a0 Z = true) : Jvm.Cond.before (Jvm.Cond.selects "com/example/sightline/sightline/checker/ByActivity" ({ cls := "com/example/sightline/sightline/checker/ByActivity", name := "push", desc := "(I)V" } : Jvm.MethodName) ({ cls := "com/example/sightline/sightline/checker/ByActivity", name := "push", desc := "(I)V" } : Jvm.MethodName)) a0 Z = true := hw _ (List.mem_of_getElem? (i := 39) rfl)
theorem wd40 {a0 : Array Value} {Z : State} (hw : ∀ d ∈ tables_1, d.before a0 Z = true) : Jvm.Cond.before (Jvm.Cond.code ({ cls := "com/example/sightline/sightline/checker/ByActivity", name := "push", desc := "(I)V" } : Jvm.MethodName) prog_2_method_6_code (2 : Nat) (Option.none : Option Jvm.ClassFile.FieldType)) a0 Z = true := hw _ (List.mem_of_getElem? (i := 40) rfl)
theorem wd41 {a0 : Array Value} {Z : State} (hw : ∀ d ∈ tables_1, d.before a0 Z = true) : Jvm.Cond.before (Jvm.Cond.fieldLink "com/example/sightline/sightline/checker/ByActivity" (48 : Nat) "com/example/sightline/sightline/checker/ByActivity" "count" "I") a0 Z = true := hw _ (List.mem_of_getElem? (i := 41) rfl)
theorem wd42 {a0 : Array Value} {Z : State} (hw : ∀ d ∈ tables_1, d.before a0 Z = true) : Jvm.Cond.before (Jvm.Cond.lays "com/example/sightline/sightline/checker/ByActivity" "com/example/sightline/sightline/checker/ByActivity" "count" "I") a0 Z = true := hw _ (List.mem_of_getElem? (i := 42) rfl)
theorem wd43 {a0 : Array Value} {Z : State} (hw : ∀ d ∈ tables_1, d.before a0 Z = true) : Jvm.Cond.before (Jvm.Cond.methodLink "com/example/sightline/sightline/checker/ByActivity" (51 : Nat) ({ cls := "com/example/sightline/sightline/checker/ByActivity", name := "place", desc := "(II)V" } : Jvm.MethodName)) a0 Z = true := hw _ (List.mem_of_getElem? (i := 43) rfl)
theorem wd44 {a0 : Array Value} {Z : State} (hw : ∀ d ∈ tables_1, d.before a0 Z = true) : Jvm.Cond.before (Jvm.Cond.instanceMethod ({ cls := "com/example/sightline/sightline/checker/ByActivity", name := "place", desc := "(II)V" } : Jvm.MethodName)) a0 Z = true := hw _ (List.mem_of_getElem? (i := 44) rfl)
theorem wd45 {a0 : Array Value} {Z : State} (hw : ∀ d ∈ tables_1, d.before a0 Z = true) : Jvm.Cond.before (Jvm.Cond.privateMethod ({ cls := "com/example/sightline/sightline/checker/ByActivity", name := "place", desc := "(II)V" } : Jvm.MethodName)) a0 Z = true := hw _ (List.mem_of_getElem? (i := 45) rfl)
theorem wd46 {a0 : Array Value} {Z : State} (hw : ∀ d ∈ tables_1, d.before a0 Z = true) : Jvm.Cond.before (Jvm.Cond.code ({ cls := "com/example/sightline/sightline/checker/ByActivity", name := "place", desc := "(II)V" } : Jvm.MethodName) prog_2_method_10_code (3 : Nat) (Option.none : Option Jvm.ClassFile.FieldType)) a0 Z = true := hw _ (List.mem_of_getElem? (i := 46) rfl)
theorem wd47 {a0 : Array Value} {Z : State} (hw : ∀ d ∈ tables_1, d.before a0 Z = true) : Jvm.Cond.before (Jvm.Cond.methodLink "com/example/sightline/sightline/checker/ByActivity" (43 : Nat) ({ cls := "com/example/sightline/sightline/checker/ByActivity", name := "up", desc := "(I)V" } : Jvm.MethodName)) a0 Z = true := hw _ (List.mem_of_getElem? (i := 47) rfl)
theorem wd48 {a0 : Array Value} {Z : State} (hw : ∀ d ∈ tables_1, d.before a0 Z = true) : Jvm.Cond.before (Jvm.Cond.instanceMethod ({ cls := "com/example/sightline/sightline/checker/ByActivity", name := "up", desc := "(I)V" } : Jvm.MethodName)) a0 Z = true := hw _ (List.mem_of_getElem? (i := 48) rfl)
theorem wd49 {a0 : Array Value} {Z : State} (hw : ∀ d ∈ tables_1, d.before a0 Z = true) : Jvm.Cond.before (Jvm.Cond.privateMethod ({ cls := "com/example/sightline/sightline/checker/ByActivity", name := "up", desc := "(I)V" } : Jvm.MethodName)) a0 Z = true := hw _ (List.mem_of_getElem? (i := 49) rfl)
theorem wd50 {a0 : Array Value} {Z : State} (hw : ∀ d ∈ tables_1, d.before a0 Z = true) : Jvm.Cond.before (Jvm.Cond.code ({ cls := "com/example/sightline/sightline/checker/ByActivity", name := "up", desc := "(I)V" } : Jvm.MethodName) prog_2_method_8_code (3 : Nat) (Option.none : Option Jvm.ClassFile.FieldType)) a0 Z = true := hw _ (List.mem_of_getElem? (i := 50) rfl)
theorem wd51 {a0 : Array Value} {Z : State} (hw : ∀ d ∈ tables_1, d.before a0 Z = true) : Jvm.Cond.before (Jvm.Cond.methodLink "com/example/sightline/sightline/checker/ByActivityPopPinLaw" (18 : Nat) ({ cls := "com/example/sightline/sightline/checker/ByActivityPopPinLaw", name := "popCheck", desc := "(Lcom/example/sightline/sightline/checker/ByActivity;[I[Z)Z" } : Jvm.MethodName)) a0 Z = true := hw _ (List.mem_of_getElem? (i := 51) rfl)
theorem wd52 {a0 : Array Value} {Z : State} (hw : ∀ d ∈ tables_1, d.before a0 Z = true) : Jvm.Cond.before (Jvm.Cond.static ({ cls := "com/example/sightline/sightline/checker/ByActivityPopPinLaw", name := "popCheck", desc := "(Lcom/example/sightline/sightline/checker/ByActivity;[I[Z)Z" } : Jvm.MethodName)) a0 Z = true := hw _ (List.mem_of_getElem? (i := 52) rfl)
theorem wd53 {a0 : Array Value} {Z : State} (hw : ∀ d ∈ tables_1, d.before a0 Z = true) : Jvm.Cond.before (Jvm.Cond.code ({ cls := "com/example/sightline/sightline/checker/ByActivityPopPinLaw", name := "popCheck", desc := "(Lcom/example/sightline/sightline/checker/ByActivity;[I[Z)Z" } : Jvm.MethodName) method_5_code (5 : Nat) (Option.some Jvm.ClassFile.FieldType.boolean)) a0 Z = true := hw _ (List.mem_of_getElem? (i := 53) rfl)
theorem wd54 {a0 : Array Value} {Z : State} (hw : ∀ d ∈ tables_1, d.before a0 Z = true) : Jvm.Cond.before (Jvm.Cond.methodLink "com/example/sightline/sightline/checker/ByActivityPopPinLaw" (25 : Nat) ({ cls := "com/example/sightline/sightline/checker/ByActivity", name := "isEmpty", desc := "()Z" } : Jvm.MethodName)) a0 Z = true := hw _ (List.mem_of_getElem? (i := 54) rfl)
theorem wd55 {a0 : Array Value} {Z : State} (hw : ∀ d ∈ tables_1, d.before a0 Z = true) : Jvm.Cond.before (Jvm.Cond.declares ({ cls := "com/example/sightline/sightline/checker/ByActivity", name := "isEmpty", desc := "()Z" } : Jvm.MethodName)) a0 Z = true := hw _ (List.mem_of_getElem? (i := 55) rfl)
theorem wd56 {a0 : Array Value} {Z : State} (hw : ∀ d ∈ tables_1, d.before a0 Z = true) : Jvm.Cond.before (Jvm.Cond.instanceMethod ({ cls := "com/example/sightline/sightline/checker/ByActivity", name := "isEmpty", desc := "()Z" } : Jvm.MethodName)) a0 Z = true := hw _ (List.mem_of_getElem? (i := 56) rfl)
theorem wd57 {a0 : Array Value} {Z : State} (hw : ∀ d ∈ tables_1, d.before a0 Z = true) : Jvm.Cond.before (Jvm.Cond.selects "com/example/sightline/sightline/checker/ByActivity" ({ cls := "com/example/sightline/sightline/checker/ByActivity", name := "isEmpty", desc := "()Z" } : Jvm.MethodName) ({ cls := "com/example/sightline/sightline/checker/ByActivity", name := "isEmpty", desc := "()Z" } : Jvm.MethodName)) a0 Z = true := hw _ (List.mem_of_getElem? (i := 57) rfl)
theorem wd58 {a0 : Array Value} {Z : State} (hw : ∀ d ∈ tables_1, d.before a0 Z = true) : Jvm.Cond.before (Jvm.Cond.code ({ cls := "com/example/sightline/sightline/checker/ByActivity", name := "isEmpty", desc := "()Z" } : Jvm.MethodName) prog_2_method_4_code (1 : Nat) (Option.some Jvm.ClassFile.FieldType.boolean)) a0 Z = true := hw _ (List.mem_of_getElem? (i := 58) rfl)
theorem wd59 {a0 : Array Value} {Z : State} (hw : ∀ d ∈ tables_1, d.before a0 Z = true) : Jvm.Cond.before (Jvm.Cond.methodLink "com/example/sightline/sightline/checker/ByActivityPopPinLaw" (29 : Nat) ({ cls := "com/example/sightline/sightline/checker/ByActivity", name := "pop", desc := "()I" } : Jvm.MethodName)) a0 Z = true := hw _ (List.mem_of_getElem? (i := 59) rfl)
theorem wd60 {a0 : Array Value} {Z : State} (hw : ∀ d ∈ tables_1, d.before a0 Z = true) : Jvm.Cond.before (Jvm.Cond.declares ({ cls := "com/example/sightline/sightline/checker/ByActivity", name := "pop", desc := "()I" } : Jvm.MethodName)) a0 Z = true := hw _ (List.mem_of_getElem? (i := 60) rfl)
theorem wd61 {a0 : Array Value} {Z : State} (hw : ∀ d ∈ tables_1, d.before a0 Z = true) : Jvm.Cond.before (Jvm.Cond.instanceMethod ({ cls := "com/example/sightline/sightline/checker/ByActivity", name := "pop", desc := "()I" } : Jvm.MethodName)) a0 Z = true := hw _ (List.mem_of_getElem? (i := 61) rfl)
theorem wd62 {a0 : Array Value} {Z : State} (hw : ∀ d ∈ tables_1, d.before a0 Z = true) : Jvm.Cond.before (Jvm.Cond.selects "com/example/sightline/sightline/checker/ByActivity" ({ cls := "com/example/sightline/sightline/checker/ByActivity", name := "pop", desc := "()I" } : Jvm.MethodName) ({ cls := "com/example/sightline/sightline/checker/ByActivity", name := "pop", desc := "()I" } : Jvm.MethodName)) a0 Z = true := hw _ (List.mem_of_getElem? (i := 62) rfl)
theorem wd63 {a0 : Array Value} {Z : State} (hw : ∀ d ∈ tables_1, d.before a0 Z = true) : Jvm.Cond.before (Jvm.Cond.code ({ cls := "com/example/sightline/sightline/checker/ByActivity", name := "pop", desc := "()I" } : Jvm.MethodName) prog_2_method_5_code (2 : Nat) (Option.some Jvm.ClassFile.FieldType.int)) a0 Z = true := hw _ (List.mem_of_getElem? (i := 63) rfl)
theorem wd64 {a0 : Array Value} {Z : State} (hw : ∀ d ∈ tables_1, d.before a0 Z = true) : Jvm.Cond.before (Jvm.Cond.methodLink "com/example/sightline/sightline/checker/ByActivityPopPinLaw" (33 : Nat) ({ cls := "com/example/sightline/sightline/checker/ByActivityPopPinLaw", name := "beats", desc := "([I[ZII)Z" } : Jvm.MethodName)) a0 Z = true := hw _ (List.mem_of_getElem? (i := 64) rfl)
theorem wd65 {a0 : Array Value} {Z : State} (hw : ∀ d ∈ tables_1, d.before a0 Z = true) : Jvm.Cond.before (Jvm.Cond.static ({ cls := "com/example/sightline/sightline/checker/ByActivityPopPinLaw", name := "beats", desc := "([I[ZII)Z" } : Jvm.MethodName)) a0 Z = true := hw _ (List.mem_of_getElem? (i := 65) rfl)
theorem wd66 {a0 : Array Value} {Z : State} (hw : ∀ d ∈ tables_1, d.before a0 Z = true) : Jvm.Cond.before (Jvm.Cond.code ({ cls := "com/example/sightline/sightline/checker/ByActivityPopPinLaw", name := "beats", desc := "([I[ZII)Z" } : Jvm.MethodName) method_4_code (4 : Nat) (Option.some Jvm.ClassFile.FieldType.boolean)) a0 Z = true := hw _ (List.mem_of_getElem? (i := 66) rfl)
theorem wd67 {a0 : Array Value} {Z : State} (hw : ∀ d ∈ tables_1, d.before a0 Z = true) : Jvm.Cond.before (Jvm.Cond.methodLink "com/example/sightline/sightline/checker/ByActivity" (55 : Nat) ({ cls := "com/example/sightline/sightline/checker/ByActivity", name := "down", desc := "(I)V" } : Jvm.MethodName)) a0 Z = true := hw _ (List.mem_of_getElem? (i := 67) rfl)
theorem wd68 {a0 : Array Value} {Z : State} (hw : ∀ d ∈ tables_1, d.before a0 Z = true) : Jvm.Cond.before (Jvm.Cond.instanceMethod ({ cls := "com/example/sightline/sightline/checker/ByActivity", name := "down", desc := "(I)V" } : Jvm.MethodName)) a0 Z = true := hw _ (List.mem_of_getElem? (i := 68) rfl)
theorem wd69 {a0 : Array Value} {Z : State} (hw : ∀ d ∈ tables_1, d.before a0 Z = true) : Jvm.Cond.before (Jvm.Cond.privateMethod ({ cls := "com/example/sightline/sightline/checker/ByActivity", name := "down", desc := "(I)V" } : Jvm.MethodName)) a0 Z = true := hw _ (List.mem_of_getElem? (i := 69) rfl)
theorem wd70 {a0 : Array Value} {Z : State} (hw : ∀ d ∈ tables_1, d.before a0 Z = true) : Jvm.Cond.before (Jvm.Cond.code ({ cls := "com/example/sightline/sightline/checker/ByActivity", name := "down", desc := "(I)V" } : Jvm.MethodName) prog_2_method_9_code (4 : Nat) (Option.none : Option Jvm.ClassFile.FieldType)) a0 Z = true := hw _ (List.mem_of_getElem? (i := 70) rfl)
theorem sn_ByActivity_choices_gain {a0 : Array Value} {Z : State} (hw : ∀ d ∈ tables_1, d.before a0 Z = true) : Jvm.RoadKit.slotOf Z "com/example/sightline/sightline/checker/ByActivity" "choices" "I" ≠ Jvm.RoadKit.slotOf Z "com/example/sightline/sightline/checker/ByActivity" "gain" "D" := slot_ne (C := "com/example/sightline/sightline/checker/ByActivity") (a0 := a0) (t := .int) (t' := .double) (Or.inr (wd12 hw)) (Or.inl (wd10 hw)) (by decide) (by decide) (by decide)
theorem sn_ByActivity_activity_gain {a0 : Array Value} {Z : State} (hw : ∀ d ∈ tables_1, d.before a0 Z = true) : Jvm.RoadKit.slotOf Z "com/example/sightline/sightline/checker/ByActivity" "activity" "[D" ≠ Jvm.RoadKit.slotOf Z "com/example/sightline/sightline/checker/ByActivity" "gain" "D" := slot_ne (C := "com/example/sightline/sightline/checker/ByActivity") (a0 := a0) (t := (.array .double)) (t' := .double) (Or.inl (wd25 hw)) (Or.inl (wd10 hw)) (by decide) (by decide) (by decide)
theorem sn_ByActivity_heap_gain {a0 : Array Value} {Z : State} (hw : ∀ d ∈ tables_1, d.before a0 Z = true) : Jvm.RoadKit.slotOf Z "com/example/sightline/sightline/checker/ByActivity" "heap" "[I" ≠ Jvm.RoadKit.slotOf Z "com/example/sightline/sightline/checker/ByActivity" "gain" "D" := slot_ne (C := "com/example/sightline/sightline/checker/ByActivity") (a0 := a0) (t := (.array .int)) (t' := .double) (Or.inl (wd28 hw)) (Or.inl (wd10 hw)) (by decide) (by decide) (by decide)
theorem sn_ByActivity_slot_gain {a0 : Array Value} {Z : State} (hw : ∀ d ∈ tables_1, d.before a0 Z = true) : Jvm.RoadKit.slotOf Z "com/example/sightline/sightline/checker/ByActivity" "slot" "[I" ≠ Jvm.RoadKit.slotOf Z "com/example/sightline/sightline/checker/ByActivity" "gain" "D" := slot_ne (C := "com/example/sightline/sightline/checker/ByActivity") (a0 := a0) (t := (.array .int)) (t' := .double) (Or.inl (wd30 hw)) (Or.inl (wd10 hw)) (by decide) (by decide) (by decide)
theorem sn_ByActivity_count_gain {a0 : Array Value} {Z : State} (hw : ∀ d ∈ tables_1, d.before a0 Z = true) : Jvm.RoadKit.slotOf Z "com/example/sightline/sightline/checker/ByActivity" "count" "I" ≠ Jvm.RoadKit.slotOf Z "com/example/sightline/sightline/checker/ByActivity" "gain" "D" := slot_ne (C := "com/example/sightline/sightline/checker/ByActivity") (a0 := a0) (t := .int) (t' := .double) (Or.inl (wd42 hw)) (Or.inl (wd10 hw)) (by decide) (by decide) (by decide)
theorem sn_ByActivity_gain_choices {a0 : Array Value} {Z : State} (hw : ∀ d ∈ tables_1, d.before a0 Z = true) : Jvm.RoadKit.slotOf Z "com/example/sightline/sightline/checker/ByActivity" "gain" "D" ≠ Jvm.RoadKit.slotOf Z "com/example/sightline/sightline/checker/ByActivity" "choices" "I" := slot_ne (C := "com/example/sightline/sightline/checker/ByActivity") (a0 := a0) (t := .double) (t' := .int) (Or.inl (wd10 hw)) (Or.inr (wd12 hw)) (by decide) (by decide) (by decide)
theorem sn_ByActivity_activity_choices {a0 : Array Value} {Z : State} (hw : ∀ d ∈ tables_1, d.before a0 Z = true) : Jvm.RoadKit.slotOf Z "com/example/sightline/sightline/checker/ByActivity" "activity" "[D" ≠ Jvm.RoadKit.slotOf Z "com/example/sightline/sightline/checker/ByActivity" "choices" "I" := slot_ne (C := "com/example/sightline/sightline/checker/ByActivity") (a0 := a0) (t := (.array .double)) (t' := .int) (Or.inl (wd25 hw)) (Or.inr (wd12 hw)) (by decide) (by decide) (by decide)
theorem sn_ByActivity_heap_choices {a0 : Array Value} {Z : State} (hw : ∀ d ∈ tables_1, d.before a0 Z = true) : Jvm.RoadKit.slotOf Z "com/example/sightline/sightline/checker/ByActivity" "heap" "[I" ≠ Jvm.RoadKit.slotOf Z "com/example/sightline/sightline/checker/ByActivity" "choices" "I" := slot_ne (C := "com/example/sightline/sightline/checker/ByActivity") (a0 := a0) (t := (.array .int)) (t' := .int) (Or.inl (wd28 hw)) (Or.inr (wd12 hw)) (by decide) (by decide) (by decide)
theorem sn_ByActivity_slot_choices {a0 : Array Value} {Z : State} (hw : ∀ d ∈ tables_1, d.before a0 Z = true) : Jvm.RoadKit.slotOf Z "com/example/sightline/sightline/checker/ByActivity" "slot" "[I" ≠ Jvm.RoadKit.slotOf Z "com/example/sightline/sightline/checker/ByActivity" "choices" "I" := slot_ne (C := "com/example/sightline/sightline/checker/ByActivity") (a0 := a0) (t := (.array .int)) (t' := .int) (Or.inl (wd30 hw)) (Or.inr (wd12 hw)) (by decide) (by decide) (by decide)
theorem sn_ByActivity_count_choices {a0 : Array Value} {Z : State} (hw : ∀ d ∈ tables_1, d.before a0 Z = true) : Jvm.RoadKit.slotOf Z "com/example/sightline/sightline/checker/ByActivity" "count" "I" ≠ Jvm.RoadKit.slotOf Z "com/example/sightline/sightline/checker/ByActivity" "choices" "I" := slot_ne (C := "com/example/sightline/sightline/checker/ByActivity") (a0 := a0) (t := .int) (t' := .int) (Or.inl (wd42 hw)) (Or.inr (wd12 hw)) (by decide) (by decide) (by decide)
theorem sn_ByActivity_activity_count {a0 : Array Value} {Z : State} (hw : ∀ d ∈ tables_1, d.before a0 Z = true) : Jvm.RoadKit.slotOf Z "com/example/sightline/sightline/checker/ByActivity" "activity" "[D" ≠ Jvm.RoadKit.slotOf Z "com/example/sightline/sightline/checker/ByActivity" "count" "I" := slot_ne (C := "com/example/sightline/sightline/checker/ByActivity") (a0 := a0) (t := (.array .double)) (t' := .int) (Or.inl (wd25 hw)) (Or.inl (wd42 hw)) (by decide) (by decide) (by decide)
theorem sn_ByActivity_heap_count {a0 : Array Value} {Z : State} (hw : ∀ d ∈ tables_1, d.before a0 Z = true) : Jvm.RoadKit.slotOf Z "com/example/sightline/sightline/checker/ByActivity" "heap" "[I" ≠ Jvm.RoadKit.slotOf Z "com/example/sightline/sightline/checker/ByActivity" "count" "I" := slot_ne (C := "com/example/sightline/sightline/checker/ByActivity") (a0 := a0) (t := (.array .int)) (t' := .int) (Or.inl (wd28 hw)) (Or.inl (wd42 hw)) (by decide) (by decide) (by decide)
theorem sn_ByActivity_slot_count {a0 : Array Value} {Z : State} (hw : ∀ d ∈ tables_1, d.before a0 Z = true) : Jvm.RoadKit.slotOf Z "com/example/sightline/sightline/checker/ByActivity" "slot" "[I" ≠ Jvm.RoadKit.slotOf Z "com/example/sightline/sightline/checker/ByActivity" "count" "I" := slot_ne (C := "com/example/sightline/sightline/checker/ByActivity") (a0 := a0) (t := (.array .int)) (t' := .int) (Or.inl (wd30 hw)) (Or.inl (wd42 hw)) (by decide) (by decide) (by decide)
theorem sn_ByActivity_gain_count {a0 : Array Value} {Z : State} (hw : ∀ d ∈ tables_1, d.before a0 Z = true) : Jvm.RoadKit.slotOf Z "com/example/sightline/sightline/checker/ByActivity" "gain" "D" ≠ Jvm.RoadKit.slotOf Z "com/example/sightline/sightline/checker/ByActivity" "count" "I" := slot_ne (C := "com/example/sightline/sightline/checker/ByActivity") (a0 := a0) (t := .double) (t' := .int) (Or.inl (wd10 hw)) (Or.inl (wd42 hw)) (by decide) (by decide) (by decide)
theorem sn_ByActivity_choices_count {a0 : Array Value} {Z : State} (hw : ∀ d ∈ tables_1, d.before a0 Z = true) : Jvm.RoadKit.slotOf Z "com/example/sightline/sightline/checker/ByActivity" "choices" "I" ≠ Jvm.RoadKit.slotOf Z "com/example/sightline/sightline/checker/ByActivity" "count" "I" := slot_ne (C := "com/example/sightline/sightline/checker/ByActivity") (a0 := a0) (t := .int) (t' := .int) (Or.inr (wd12 hw)) (Or.inl (wd42 hw)) (by decide) (by decide) (by decide)
theorem sn_ByActivity_heap_activity {a0 : Array Value} {Z : State} (hw : ∀ d ∈ tables_1, d.before a0 Z = true) : Jvm.RoadKit.slotOf Z "com/example/sightline/sightline/checker/ByActivity" "heap" "[I" ≠ Jvm.RoadKit.slotOf Z "com/example/sightline/sightline/checker/ByActivity" "activity" "[D" := slot_ne (C := "com/example/sightline/sightline/checker/ByActivity") (a0 := a0) (t := (.array .int)) (t' := (.array .double)) (Or.inl (wd28 hw)) (Or.inl (wd25 hw)) (by decide) (by decide) (by decide)
theorem sn_ByActivity_slot_activity {a0 : Array Value} {Z : State} (hw : ∀ d ∈ tables_1, d.before a0 Z = true) : Jvm.RoadKit.slotOf Z "com/example/sightline/sightline/checker/ByActivity" "slot" "[I" ≠ Jvm.RoadKit.slotOf Z "com/example/sightline/sightline/checker/ByActivity" "activity" "[D" := slot_ne (C := "com/example/sightline/sightline/checker/ByActivity") (a0 := a0) (t := (.array .int)) (t' := (.array .double)) (Or.inl (wd30 hw)) (Or.inl (wd25 hw)) (by decide) (by decide) (by decide)
theorem sn_ByActivity_count_activity {a0 : Array Value} {Z : State} (hw : ∀ d ∈ tables_1, d.before a0 Z = true) : Jvm.RoadKit.slotOf Z "com/example/sightline/sightline/checker/ByActivity" "count" "I" ≠ Jvm.RoadKit.slotOf Z "com/example/sightline/sightline/checker/ByActivity" "activity" "[D" := slot_ne (C := "com/example/sightline/sightline/checker/ByActivity") (a0 := a0) (t := .int) (t' := (.array .double)) (Or.inl (wd42 hw)) (Or.inl (wd25 hw)) (by decide) (by decide) (by decide)
theorem sn_ByActivity_gain_activity {a0 : Array Value} {Z : State} (hw : ∀ d ∈ tables_1, d.before a0 Z = true) : Jvm.RoadKit.slotOf Z "com/example/sightline/sightline/checker/ByActivity" "gain" "D" ≠ Jvm.RoadKit.slotOf Z "com/example/sightline/sightline/checker/ByActivity" "activity" "[D" := slot_ne (C := "com/example/sightline/sightline/checker/ByActivity") (a0 := a0) (t := .double) (t' := (.array .double)) (Or.inl (wd10 hw)) (Or.inl (wd25 hw)) (by decide) (by decide) (by decide)
theorem sn_ByActivity_choices_activity {a0 : Array Value} {Z : State} (hw : ∀ d ∈ tables_1, d.before a0 Z = true) : Jvm.RoadKit.slotOf Z "com/example/sightline/sightline/checker/ByActivity" "choices" "I" ≠ Jvm.RoadKit.slotOf Z "com/example/sightline/sightline/checker/ByActivity" "activity" "[D" := slot_ne (C := "com/example/sightline/sightline/checker/ByActivity") (a0 := a0) (t := .int) (t' := (.array .double)) (Or.inr (wd12 hw)) (Or.inl (wd25 hw)) (by decide) (by decide) (by decide)
theorem sn_ByActivity_activity_heap {a0 : Array Value} {Z : State} (hw : ∀ d ∈ tables_1, d.before a0 Z = true) : Jvm.RoadKit.slotOf Z "com/example/sightline/sightline/checker/ByActivity" "activity" "[D" ≠ Jvm.RoadKit.slotOf Z "com/example/sightline/sightline/checker/ByActivity" "heap" "[I" := slot_ne (C := "com/example/sightline/sightline/checker/ByActivity") (a0 := a0) (t := (.array .double)) (t' := (.array .int)) (Or.inl (wd25 hw)) (Or.inl (wd28 hw)) (by decide) (by decide) (by decide)
theorem sn_ByActivity_slot_heap {a0 : Array Value} {Z : State} (hw : ∀ d ∈ tables_1, d.before a0 Z = true) : Jvm.RoadKit.slotOf Z "com/example/sightline/sightline/checker/ByActivity" "slot" "[I" ≠ Jvm.RoadKit.slotOf Z "com/example/sightline/sightline/checker/ByActivity" "heap" "[I" := slot_ne (C := "com/example/sightline/sightline/checker/ByActivity") (a0 := a0) (t := (.array .int)) (t' := (.array .int)) (Or.inl (wd30 hw)) (Or.inl (wd28 hw)) (by decide) (by decide) (by decide)
theorem sn_ByActivity_count_heap {a0 : Array Value} {Z : State} (hw : ∀ d ∈ tables_1, d.before a0 Z = true) : Jvm.RoadKit.slotOf Z "com/example/sightline/sightline/checker/ByActivity" "count" "I" ≠ Jvm.RoadKit.slotOf Z "com/example/sightline/sightline/checker/ByActivity" "heap" "[I" := slot_ne (C := "com/example/sightline/sightline/checker/ByActivity") (a0 := a0) (t := .int) (t' := (.array .int)) (Or.inl (wd42 hw)) (Or.inl (wd28 hw)) (by decide) (by decide) (by decide)
theorem sn_ByActivity_gain_heap {a0 : Array Value} {Z : State} (hw : ∀ d ∈ tables_1, d.before a0 Z = true) : Jvm.RoadKit.slotOf Z "com/example/sightline/sightline/checker/ByActivity" "gain" "D" ≠ Jvm.RoadKit.slotOf Z "com/example/sightline/sightline/checker/ByActivity" "heap" "[I" := slot_ne (C := "com/example/sightline/sightline/checker/ByActivity") (a0 := a0) (t := .double) (t' := (.array .int)) (Or.inl (wd10 hw)) (Or.inl (wd28 hw)) (by decide) (by decide) (by decide)
theorem sn_ByActivity_choices_heap {a0 : Array Value} {Z : State} (hw : ∀ d ∈ tables_1, d.before a0 Z = true) : Jvm.RoadKit.slotOf Z "com/example/sightline/sightline/checker/ByActivity" "choices" "I" ≠ Jvm.RoadKit.slotOf Z "com/example/sightline/sightline/checker/ByActivity" "heap" "[I" := slot_ne (C := "com/example/sightline/sightline/checker/ByActivity") (a0 := a0) (t := .int) (t' := (.array .int)) (Or.inr (wd12 hw)) (Or.inl (wd28 hw)) (by decide) (by decide) (by decide)
theorem sn_ByActivity_activity_slot {a0 : Array Value} {Z : State} (hw : ∀ d ∈ tables_1, d.before a0 Z = true) : Jvm.RoadKit.slotOf Z "com/example/sightline/sightline/checker/ByActivity" "activity" "[D" ≠ Jvm.RoadKit.slotOf Z "com/example/sightline/sightline/checker/ByActivity" "slot" "[I" := slot_ne (C := "com/example/sightline/sightline/checker/ByActivity") (a0 := a0) (t := (.array .double)) (t' := (.array .int)) (Or.inl (wd25 hw)) (Or.inl (wd30 hw)) (by decide) (by decide) (by decide)
theorem sn_ByActivity_heap_slot {a0 : Array Value} {Z : State} (hw : ∀ d ∈ tables_1, d.before a0 Z = true) : Jvm.RoadKit.slotOf Z "com/example/sightline/sightline/checker/ByActivity" "heap" "[I" ≠ Jvm.RoadKit.slotOf Z "com/example/sightline/sightline/checker/ByActivity" "slot" "[I" := slot_ne (C := "com/example/sightline/sightline/checker/ByActivity") (a0 := a0) (t := (.array .int)) (t' := (.array .int)) (Or.inl (wd28 hw)) (Or.inl (wd30 hw)) (by decide) (by decide) (by decide)
theorem sn_ByActivity_count_slot {a0 : Array Value} {Z : State} (hw : ∀ d ∈ tables_1, d.before a0 Z = true) : Jvm.RoadKit.slotOf Z "com/example/sightline/sightline/checker/ByActivity" "count" "I" ≠ Jvm.RoadKit.slotOf Z "com/example/sightline/sightline/checker/ByActivity" "slot" "[I" := slot_ne (C := "com/example/sightline/sightline/checker/ByActivity") (a0 := a0) (t := .int) (t' := (.array .int)) (Or.inl (wd42 hw)) (Or.inl (wd30 hw)) (by decide) (by decide) (by decide)
theorem sn_ByActivity_gain_slot {a0 : Array Value} {Z : State} (hw : ∀ d ∈ tables_1, d.before a0 Z = true) : Jvm.RoadKit.slotOf Z "com/example/sightline/sightline/checker/ByActivity" "gain" "D" ≠ Jvm.RoadKit.slotOf Z "com/example/sightline/sightline/checker/ByActivity" "slot" "[I" := slot_ne (C := "com/example/sightline/sightline/checker/ByActivity") (a0 := a0) (t := .double) (t' := (.array .int)) (Or.inl (wd10 hw)) (Or.inl (wd30 hw)) (by decide) (by decide) (by decide)
theorem sn_ByActivity_choices_slot {a0 : Array Value} {Z : State} (hw : ∀ d ∈ tables_1, d.before a0 Z = true) : Jvm.RoadKit.slotOf Z "com/example/sightline/sightline/checker/ByActivity" "choices" "I" ≠ Jvm.RoadKit.slotOf Z "com/example/sightline/sightline/checker/ByActivity" "slot" "[I" := slot_ne (C := "com/example/sightline/sightline/checker/ByActivity") (a0 := a0) (t := .int) (t' := (.array .int)) (Or.inr (wd12 hw)) (Or.inl (wd30 hw)) (by decide) (by decide) (by decide)
theorem pd0 : parseMethodDescriptor "(II)V" = some ⟨[.int, .int], none⟩ := by decide +kernel
theorem pd1 : parseMethodDescriptor "(I)V" = some ⟨[.int], none⟩ := by decide +kernel
theorem pd2 : parseMethodDescriptor "([II)V" = some ⟨[(.array .int), .int], none⟩ := by decide +kernel
theorem pd3 : parseMethodDescriptor "()Z" = some ⟨[], some .boolean⟩ := by decide +kernel
theorem pd4 : parseMethodDescriptor "()I" = some ⟨[], some .int⟩ := by decide +kernel
theorem pd5 : parseMethodDescriptor "([I[ZII)Z" = some ⟨[(.array .int), (.array .boolean), .int, .int], some .boolean⟩ := by decide +kernel
theorem pd6 : parseMethodDescriptor "(Lcom/example/sightline/sightline/checker/ByActivity;[I[ZIII)V" = some ⟨[(.object "com/example/sightline/sightline/checker/ByActivity"), (.array .int), (.array .boolean), .int, .int, .int], none⟩ := by decide +kernel
theorem pd7 : parseMethodDescriptor "(Lcom/example/sightline/sightline/checker/ByActivity;[I[Z)Z" = some ⟨[(.object "com/example/sightline/sightline/checker/ByActivity"), (.array .int), (.array .boolean)], some .boolean⟩ := by decide +kernel
theorem pn0 : plainName "com/example/sightline/sightline/checker/ByActivity" = true := by first | (simp [plainName, overriddenIn]; done) | decide +kernel
theorem pn1 : plainName "java/util/Arrays" = true := by first | (simp [plainName, overriddenIn]; done) | decide +kernel
theorem pn2 : plainName "com/example/sightline/sightline/checker/ByActivityPopPinLaw" = true := by first | (simp [plainName, overriddenIn]; done) | decide +kernel
theorem o_int {n : Nat} (h : n < 1000) : (Int32.ofNat n).toInt = (n : Int) := Int32.toInt_ofNat_of_lt (by omega)
theorem o_par {n : Nat} (h0 : 0 < n) (h : n < 1000) : (Int32.ofNat n - 1) / 2 = Int32.ofNat ((n - 1) / 2) := by
  apply Int32.toInt_inj.mp
  have e1 : (Int32.ofNat n - 1).toInt = n - 1 := by rw [Int32.toInt_sub, o_int h]; have := Int.bmod_eq_of_le (n := (n : Int) - (1 : Int32).toInt) (m := 2 ^ 32) (by simp; omega) (by simp; omega); rw [this]; simp
  rw [(c_idiv (Int32.ofNat n - 1) 2 2 (by decide) (by decide)).1 (by omega), e1, o_int (by omega)]; omega
theorem o_add1 {n : Nat} (h : n < 998) : Int32.ofNat n + 1 = Int32.ofNat (n + 1) := by
  apply Int32.toInt_inj.mp
  rw [Int32.toInt_add, o_int (by omega), o_int (by omega)]; have := Int.bmod_eq_of_le (n := (n : Int) + (1 : Int32).toInt) (m := 2 ^ 32) (by simp; omega) (by simp; omega); rw [this]; simp
theorem o_sub1 {n : Nat} (h0 : 0 < n) (h : n < 1000) : Int32.ofNat n - 1 = Int32.ofNat (n - 1) := by
  apply Int32.toInt_inj.mp
  rw [Int32.toInt_sub, o_int (by omega), o_int (by omega)]; have := Int.bmod_eq_of_le (n := (n : Int) - (1 : Int32).toInt) (m := 2 ^ 32) (by simp; omega) (by simp; omega); rw [this]; simp; omega
theorem o_kid1 {n : Nat} (h : n < 400) : 2 * Int32.ofNat n + 1 = Int32.ofNat (2 * n + 1) := by
  apply Int32.toInt_inj.mp
  have e1 : (2 * Int32.ofNat n).toInt = 2 * n := by rw [Int32.toInt_mul, o_int (by omega)]; exact Int.bmod_eq_of_le (by simp; omega) (by simp; omega)
  rw [Int32.toInt_add, e1, o_int (by omega)]; have := Int.bmod_eq_of_le (n := 2 * (n : Int) + (1 : Int32).toInt) (m := 2 ^ 32) (by simp; omega) (by simp; omega); rw [this]; simp
theorem o_lt {a b : Nat} (ha : a < 1000) (hb : b < 1000) : Int32.ofNat a < Int32.ofNat b ↔ a < b := by rw [Int32.lt_iff_toInt_lt, o_int ha, o_int hb]; omega
theorem o_pos {a : Nat} (ha : a < 1000) : 0 < Int32.ofNat a ↔ 0 < a := by rw [Int32.lt_iff_toInt_lt, o_int ha]; simp
theorem o_nm1 {a : Nat} (ha : a < 1000) : ¬ Int32.ofNat a = -1 := fun q => by have := o_int ha; rw [q] at this; simp at this
/-- the choice goes up -/
def upB (A : List UInt64) (c : Nat) (H : List Nat) (S : List Int32) (i : Nat) : List Nat × List Int32 :=
  if h : 0 < i then
    if FP.dcmp (A.getD (H.getD ((i - 1) / 2) 0) 0) (A.getD c 0) = some .lt then upB A c (H.set i (H.getD ((i - 1) / 2) 0)) (S.set (H.getD ((i - 1) / 2) 0) (Int32.ofNat i)) ((i - 1) / 2)
    else (H.set i c, S.set c (Int32.ofNat i))
  else (H.set i c, S.set c (Int32.ofNat i))
termination_by i
decreasing_by omega
section
variable {A : List UInt64} {c : Nat} {H : List Nat} {S : List Int32} {i n : Nat}
theorem upB_zero (h : ¬ 0 < i) : upB A c H S i = (H.set i c, S.set c (Int32.ofNat i)) := by rw [upB, dif_neg h]
theorem upB_stop (h : 0 < i) (q : ¬ FP.dcmp (A.getD (H.getD ((i - 1) / 2) 0) 0) (A.getD c 0) = some .lt) : upB A c H S i = (H.set i c, S.set c (Int32.ofNat i)) := by rw [upB, dif_pos h, if_neg q]
theorem upB_go (h : 0 < i) (q : FP.dcmp (A.getD (H.getD ((i - 1) / 2) 0) 0) (A.getD c 0) = some .lt) : upB A c H S i = upB A c (H.set i (H.getD ((i - 1) / 2) 0)) (S.set (H.getD ((i - 1) / 2) 0) (Int32.ofNat i)) ((i - 1) / 2) := by rw [upB, dif_pos h, if_pos q]
/-- the child to go on with -/
def kidB (A : List UInt64) (n : Nat) (H : List Nat) (i : Nat) : Nat := if 2 * i + 2 < n ∧ FP.dcmp (A.getD (H.getD (2 * i + 2) 0) 0) (A.getD (H.getD (2 * i + 1) 0) 0) = some .gt then 2 * i + 2 else 2 * i + 1
theorem kidB_bd (A : List UInt64) (n : Nat) (H : List Nat) (i : Nat) : kidB A n H i = 2 * i + 1 ∨ (kidB A n H i = 2 * i + 2 ∧ 2 * i + 2 < n) := by unfold kidB; split <;> omega
/-- the choice goes down -/
def downB (A : List UInt64) (n : Nat) (c : Nat) (H : List Nat) (S : List Int32) (i : Nat) : List Nat × List Int32 :=
  if h : 2 * i + 1 < n then
    if FP.dcmp (A.getD (H.getD (kidB A n H i) 0) 0) (A.getD c 0) = some .lt ∨ FP.dcmp (A.getD (H.getD (kidB A n H i) 0) 0) (A.getD c 0) = some .eq then (H.set i c, S.set c (Int32.ofNat i))
    else downB A n c (H.set i (H.getD (kidB A n H i) 0)) (S.set (H.getD (kidB A n H i) 0) (Int32.ofNat i)) (kidB A n H i)
  else (H.set i c, S.set c (Int32.ofNat i))
termination_by n - i
decreasing_by have := kidB_bd A n H i; omega
theorem downB_end (h : ¬ 2 * i + 1 < n) : downB A n c H S i = (H.set i c, S.set c (Int32.ofNat i)) := by rw [downB, dif_neg h]
theorem downB_stop (h : 2 * i + 1 < n) (q : Jvm.OwnWp.dle (FP.dcmp (A.getD (H.getD (kidB A n H i) 0) 0) (A.getD c 0))) : downB A n c H S i = (H.set i c, S.set c (Int32.ofNat i)) := by rw [downB, dif_pos h]; exact if_pos q
theorem downB_go (h : 2 * i + 1 < n) (q : ¬ Jvm.OwnWp.dle (FP.dcmp (A.getD (H.getD (kidB A n H i) 0) 0) (A.getD c 0))) : downB A n c H S i = downB A n c (H.set i (H.getD (kidB A n H i) 0)) (S.set (H.getD (kidB A n H i) 0) (Int32.ofNat i)) (kidB A n H i) := by rw [downB, dif_pos h]; exact if_neg q
end
/-- every entry of the heap is a choice -/
def Bd (N : Nat) (H : List Nat) : Prop := ∀ j, H.getD j 0 < N
theorem Bd.set {N : Nat} {H : List Nat} (h : Bd N H) (i : Nat) {c : Nat} (hc : c < N) : Bd N (H.set i c) := fun j => by
  rw [List.getD_eq_getElem?_getD, List.getElem?_set]
  split
  · split
    · exact hc
    · simp; omega
  · rw [← List.getD_eq_getElem?_getD]; exact h j
/-- push | pop on the lists -/
def pushB (A : List UInt64) (c : Nat) (H : List Nat) (S : List Int32) (n : Nat) : List Nat × List Int32 := upB A c (H.set n c) (S.set c (Int32.ofNat n)) n
def popB (A : List UInt64) (H : List Nat) (S : List Int32) (n : Nat) : List Nat × List Int32 :=
  if 0 < n - 1 then downB A (n - 1) (H.getD (n - 1) 0) (H.set 0 (H.getD (n - 1) 0)) ((S.set (H.getD 0 0) (-1)).set (H.getD (n - 1) 0) (Int32.ofNat 0)) 0 else (H, S.set (H.getD 0 0) (-1))
set_option maxRecDepth 65536 in
set_option maxHeartbeats 40000000 in
theorem c_init (l : Launch) (Z : State) (a0 : Array Value) (hw : ∀ d ∈ tables_1, d.before a0 Z = true) (ws : List Jvm.Cond) (b : Addr) (N : Nat) (h0 : Heap) (n0 : Nat) (Z0 : n0 ≤ h0.size) (E : Exa Z h0 b "com/example/sightline/sightline/checker/ByActivity") (ge_b : n0 ≤ b) (G1 : Fld Z h0 b "com/example/sightline/sightline/checker/ByActivity" "gain" "D" (.double 0)) (G2 : Fld Z h0 b "com/example/sightline/sightline/checker/ByActivity" "choices" "I" (.int 0)) (G3 : Fld Z h0 b "com/example/sightline/sightline/checker/ByActivity" "activity" "[D" .null) (G4 : Fld Z h0 b "com/example/sightline/sightline/checker/ByActivity" "heap" "[I" .null) (G5 : Fld Z h0 b "com/example/sightline/sightline/checker/ByActivity" "slot" "[I" .null) (G6 : Fld Z h0 b "com/example/sightline/sightline/checker/ByActivity" "count" "I" (.int 0)) :
    Ctr l Z (⟨"com/example/sightline/sightline/checker/ByActivity", "<init>", "(I)V"⟩ : MethodName) prog_2_method_1_code 2 none ws ({ frames := 1, cells := 0, slots := 0, locals := 12 } : Room) n0 #[(.ref b), (.int (Int32.ofNat N))] h0 (fun v h => v = none ∧ Keep h0 h [b] ∧ Fld Z h b "com/example/sightline/sightline/checker/ByActivity" "gain" "D" (.double 4607182418800017408) ∧ Fld Z h b "com/example/sightline/sightline/checker/ByActivity" "choices" "I" (.int (Int32.ofNat N)) ∧ Fld Z h b "com/example/sightline/sightline/checker/ByActivity" "activity" "[D" .null ∧ Fld Z h b "com/example/sightline/sightline/checker/ByActivity" "heap" "[I" .null ∧ Fld Z h b "com/example/sightline/sightline/checker/ByActivity" "slot" "[I" .null ∧ Fld Z h b "com/example/sightline/sightline/checker/ByActivity" "count" "I" (.int 0)) := by
  refine ctr (own := "com/example/sightline/sightline/checker/ByActivity") (nm := "<init>") rfl rfl (Ls := #[.val (.ref b), .val (.int (Int32.ofNat N))]) (plainFor_of_name pn0) (fun m => by first | (simp [entryFrame, mkF, argsToLocals, Value.category]; done) | rfl) ?_
  intro p e s m below meth c K eh
  have P0 := Keep.refl h0 [b]
  refine Jvm.OwnWp.aloadN K d_prog_2_method_1_0 rfl rfl (pc' := 1) rfl ?_
  refine initObj K (wd6 hw) (wd7 hw) (wd8 hw) d_prog_2_method_1_1 rfl (Nat.le_of_ble_eq_true rfl) (Nat.le_of_ble_eq_true rfl) (pc' := 4) rfl ?_
  refine Jvm.OwnWp.aloadN K d_prog_2_method_1_4 rfl rfl (pc' := 5) rfl ?_
  refine Jvm.OwnWp.dconst1 K d_prog_2_method_1_5 (v := (4607182418800017408 : UInt64)) rfl (pc' := 6) rfl ?_
  refine putf K (wd9 hw) Via.refl G1 E (Or.inl (wd10 hw)) (wd1 hw) (ty := .double) (by decide) rfl rfl ge_b d_prog_2_method_1_6 (pc' := 9) rfl ?_
  intro h1 W1
  have F1_choices_b := (Fld.other W1 G2 (Or.inr (sn_ByActivity_choices_gain hw)))
  have F1_activity_b := (Fld.other W1 G3 (Or.inr (sn_ByActivity_activity_gain hw)))
  have F1_heap_b := (Fld.other W1 G4 (Or.inr (sn_ByActivity_heap_gain hw)))
  have F1_slot_b := (Fld.other W1 G5 (Or.inr (sn_ByActivity_slot_gain hw)))
  have F1_count_b := (Fld.other W1 G6 (Or.inr (sn_ByActivity_count_gain hw)))
  have X1_b := (Exa.wr W1 E)
  have P1 := (P0.wr W1 (Or.inl (List.mem_of_getElem? (i := 0) rfl)))
  have F1_gain_b := Fld.same W1 G1
  refine Jvm.OwnWp.aloadN K d_prog_2_method_1_9 rfl rfl (pc' := 10) rfl ?_
  refine Jvm.OwnWp.iloadN K d_prog_2_method_1_10 rfl (pc' := 11) rfl ?_
  refine putf K (wd11 hw) Via.refl F1_choices_b X1_b (Or.inr ⟨(wd12 hw), rfl, rfl⟩) (wd1 hw) (ty := .int) (by decide) rfl rfl ge_b d_prog_2_method_1_11 (pc' := 14) rfl ?_
  intro h2 W2
  have F2_gain_b := (Fld.other W2 F1_gain_b (Or.inr (sn_ByActivity_gain_choices hw)))
  have F2_activity_b := (Fld.other W2 F1_activity_b (Or.inr (sn_ByActivity_activity_choices hw)))
  have F2_heap_b := (Fld.other W2 F1_heap_b (Or.inr (sn_ByActivity_heap_choices hw)))
  have F2_slot_b := (Fld.other W2 F1_slot_b (Or.inr (sn_ByActivity_slot_choices hw)))
  have F2_count_b := (Fld.other W2 F1_count_b (Or.inr (sn_ByActivity_count_choices hw)))
  have X2_b := (Exa.wr W2 X1_b)
  have P2 := (P1.wr W2 (Or.inl (List.mem_of_getElem? (i := 0) rfl)))
  have F2_choices_b := Fld.same W2 F1_choices_b
  refine retV K rfl d_prog_2_method_1_14 (Nat.le_of_ble_eq_true rfl) (Nat.le_of_ble_eq_true rfl) ?_
  exact ⟨rfl, P2, F2_gain_b, F2_choices_b, F2_activity_b, F2_heap_b, F2_slot_b, F2_count_b⟩
set_option maxRecDepth 65536 in
set_option maxHeartbeats 40000000 in
theorem c_empty (l : Launch) (Z : State) (a0 : Array Value) (hw : ∀ d ∈ tables_1, d.before a0 Z = true) (ws : List Jvm.Cond) (b : Addr) (z : Int32) (h0 : Heap) (n0 : Nat) (Z0 : n0 ≤ h0.size) (F : Fld Z h0 b "com/example/sightline/sightline/checker/ByActivity" "count" "I" (.int z)) :
    Ctr l Z (⟨"com/example/sightline/sightline/checker/ByActivity", "isEmpty", "()Z"⟩ : MethodName) prog_2_method_4_code 1 (some .boolean) ws ({ frames := 0, cells := 0, slots := 0, locals := 0 } : Room) n0 #[(.ref b)] h0 (fun v h => v = some (.int (if z = 0 then 1 else 0)) ∧ h0 = h) := by
  refine ctr (own := "com/example/sightline/sightline/checker/ByActivity") (nm := "isEmpty") rfl rfl (Ls := #[.val (.ref b)]) (plainFor_of_name pn0) (fun m => by first | (simp [entryFrame, mkF, argsToLocals, Value.category]; done) | rfl) ?_
  intro p e s m below meth c K eh
  refine Jvm.OwnWp.aloadN K d_prog_2_method_4_0 rfl rfl (pc' := 1) rfl ?_
  refine Jvm.OwnWp.getf K (wd41 hw) Via.refl F d_prog_2_method_4_1 (pc' := 4) rfl ?_
  by_cases c1 : z = 0
  · refine ifN K d_prog_2_method_4_4 (XT.i0_ne_f c1) (pc' := 7) rfl ?_
    refine Jvm.OwnWp.iconst K (1 : Int32) d_prog_2_method_4_7 (by decide) (pc' := 8) rfl ?_
    refine goto' K d_prog_2_method_4_8 (pc' := 12) (by decide) (by decide) ?_
    refine retB K (t := .boolean) rfl (by simp) d_prog_2_method_4_12 (Nat.le_of_ble_eq_true rfl) (Nat.le_of_ble_eq_true rfl) ?_
    exact ⟨by rw [if_pos c1]; rfl, rfl⟩
  · refine ifY K d_prog_2_method_4_4 (XT.i0_ne_t c1) (pc' := 11) (by decide) (by decide) ?_
    refine Jvm.OwnWp.iconst K (0 : Int32) d_prog_2_method_4_11 (by decide) (pc' := 12) rfl ?_
    refine retB K (t := .boolean) rfl (by simp) d_prog_2_method_4_12 (Nat.le_of_ble_eq_true rfl) (Nat.le_of_ble_eq_true rfl) ?_
    exact ⟨by rw [if_neg c1]; rfl, rfl⟩
set_option maxRecDepth 65536 in
set_option maxHeartbeats 40000000 in
theorem c_place (l : Launch) (Z : State) (a0 : Array Value) (hw : ∀ d ∈ tables_1, d.before a0 Z = true) (ws : List Jvm.Cond) (b ha sa : Addr) (ch i : Nat) (Hl : List Nat) (Sl : List Int32) (h0 : Heap) (n0 : Nat) (Z0 : n0 ≤ h0.size) (hi : i < Hl.length) (hc : ch < Sl.length) (i9 : i < 1000) (c9 : ch < 1000) (F_heap : Fld Z h0 b "com/example/sightline/sightline/checker/ByActivity" "heap" "[I" (.ref ha)) (F_slot : Fld Z h0 b "com/example/sightline/sightline/checker/ByActivity" "slot" "[I" (.ref sa)) (VH : HV Z h0 ha Hl) (VS : IV Z h0 sa Sl) (ne_sa_ha : sa ≠ ha) (ne_ha_b : ha ≠ b) (ne_sa_b : sa ≠ b) (ge_ha : n0 ≤ ha) (ge_sa : n0 ≤ sa) :
    Ctr l Z (⟨"com/example/sightline/sightline/checker/ByActivity", "place", "(II)V"⟩ : MethodName) prog_2_method_10_code 3 none ws ({ frames := 0, cells := 0, slots := 0, locals := 0 } : Room) n0 #[(.ref b), (.int (Int32.ofNat ch)), (.int (Int32.ofNat i))] h0 (fun v h => v = none ∧ Keep h0 h [ha, sa] ∧ HV Z h ha (Hl.set i ch) ∧ IV Z h sa (Sl.set ch (Int32.ofNat i))) := by
  refine ctr (own := "com/example/sightline/sightline/checker/ByActivity") (nm := "place") rfl rfl (Ls := #[.val (.ref b), .val (.int (Int32.ofNat ch)), .val (.int (Int32.ofNat i))]) (plainFor_of_name pn0) (fun m => by first | (simp [entryFrame, mkF, argsToLocals, Value.category]; done) | rfl) ?_
  intro p e s m below meth c K eh
  have P0 := Keep.refl h0 [ha, sa]
  refine Jvm.OwnWp.aloadN K d_prog_2_method_10_0 rfl rfl (pc' := 1) rfl ?_
  refine Jvm.OwnWp.getf K (wd27 hw) Via.refl F_heap d_prog_2_method_10_1 (pc' := 4) rfl ?_
  refine Jvm.OwnWp.iloadN K d_prog_2_method_10_4 rfl (pc' := 5) rfl ?_
  refine Jvm.OwnWp.iloadN K d_prog_2_method_10_5 rfl (pc' := 6) rfl ?_
  refine iastore K (i := i) VH (o_int i9) (mapLt hi) ge_ha d_prog_2_method_10_6 (pc' := 7) rfl ?_
  intro h3 W3
  have F3_heap_b := (Fld.other W3 F_heap (Or.inl (Ne.symm ne_ha_b)))
  have F3_slot_b := (Fld.other W3 F_slot (Or.inl (Ne.symm ne_ha_b)))
  have V3_sa := (VS.other W3 ne_sa_ha)
  have P3 := (P0.wr W3 (Or.inl (List.mem_of_getElem? (i := 0) rfl)))
  have V3_ha := VH.set W3
  refine Jvm.OwnWp.aloadN K d_prog_2_method_10_7 rfl rfl (pc' := 8) rfl ?_
  refine Jvm.OwnWp.getf K (wd29 hw) Via.refl F3_slot_b d_prog_2_method_10_8 (pc' := 11) rfl ?_
  refine Jvm.OwnWp.iloadN K d_prog_2_method_10_11 rfl (pc' := 12) rfl ?_
  refine Jvm.OwnWp.iloadN K d_prog_2_method_10_12 rfl (pc' := 13) rfl ?_
  refine iastore K (i := ch) V3_sa (o_int c9) (mapLt hc) ge_sa d_prog_2_method_10_13 (pc' := 14) rfl ?_
  intro h4 W4
  have F4_heap_b := (Fld.other W4 F3_heap_b (Or.inl (Ne.symm ne_sa_b)))
  have F4_slot_b := (Fld.other W4 F3_slot_b (Or.inl (Ne.symm ne_sa_b)))
  have V4_ha := (V3_ha.other W4 (Ne.symm ne_sa_ha))
  have P4 := (P3.wr W4 (Or.inl (List.mem_of_getElem? (i := 1) rfl)))
  have V4_sa := V3_sa.set W4
  refine retV K rfl d_prog_2_method_10_14 (Nat.le_of_ble_eq_true rfl) (Nat.le_of_ble_eq_true rfl) ?_
  exact ⟨rfl, P4, V4_ha, V4_sa⟩
set_option maxRecDepth 65536 in
set_option maxHeartbeats 40000000 in
theorem c_up (l : Launch) (Z : State) (a0 : Array Value) (hw : ∀ d ∈ tables_1, d.before a0 Z = true) (ws : List Jvm.Cond) (b ka ha sa : Addr) (N i : Nat) (Al : List UInt64) (Hl : List Nat) (Sl : List Int32) (h0 : Heap) (n0 : Nat) (Z0 : n0 ≤ h0.size) (hA : Al.length = N) (hH : Hl.length = N) (hS : Sl.length = N) (N0 : 0 < N) (N9 : N < 100) (hB : Bd N Hl) (hiN : i < N) (E : Exa Z h0 b "com/example/sightline/sightline/checker/ByActivity") (F_act : Fld Z h0 b "com/example/sightline/sightline/checker/ByActivity" "activity" "[D" (.ref ka)) (F_heap : Fld Z h0 b "com/example/sightline/sightline/checker/ByActivity" "heap" "[I" (.ref ha)) (F_slot : Fld Z h0 b "com/example/sightline/sightline/checker/ByActivity" "slot" "[I" (.ref sa)) (VA : DV Z h0 ka Al) (VH : HV Z h0 ha Hl) (VS : IV Z h0 sa Sl) (ne_sa_ha : sa ≠ ha) (ne_ha_ka : ha ≠ ka) (ne_sa_ka : sa ≠ ka) (ne_ha_b : ha ≠ b) (ne_sa_b : sa ≠ b) (ge_ha : n0 ≤ ha) (ge_sa : n0 ≤ sa) :
    Ctr l Z (⟨"com/example/sightline/sightline/checker/ByActivity", "up", "(I)V"⟩ : MethodName) prog_2_method_8_code 3 none ws ({ frames := 1, cells := 0, slots := 0, locals := 14 } : Room) n0 #[(.ref b), (.int (Int32.ofNat i))] h0 (fun v h => v = none ∧ Keep h0 h [ha, sa] ∧ HV Z h ha (upB Al (Hl.getD i 0) Hl Sl i).1 ∧ IV Z h sa (upB Al (Hl.getD i 0) Hl Sl i).2) := by
  refine ctr (own := "com/example/sightline/sightline/checker/ByActivity") (nm := "up") rfl rfl (Ls := #[.val (.ref b), .val (.int (Int32.ofNat i)), .unset]) (plainFor_of_name pn0) (fun m => by first | (simp [entryFrame, mkF, argsToLocals, Value.category]; done) | rfl) ?_
  intro p e s m below meth c K eh
  have P0 := Keep.refl h0 [ha, sa]
  refine Jvm.OwnWp.aloadN K d_prog_2_method_8_0 rfl rfl (pc' := 1) rfl ?_
  refine Jvm.OwnWp.getf K (wd27 hw) Via.refl F_heap d_prog_2_method_8_1 (pc' := 4) rfl ?_
  refine Jvm.OwnWp.iloadN K d_prog_2_method_8_4 rfl (pc' := 5) rfl ?_
  refine iaload K (i := i) VH (o_int (by omega)) (mapAt (getDAt (d := 0) (by omega))) d_prog_2_method_8_5 (pc' := 6) rfl ?_
  refine Jvm.OwnWp.istoreN K d_prog_2_method_8_6 (Ls' := #[.val (.ref b), .val (.int (Int32.ofNat i)), .val (.int (Int32.ofNat (Hl.getD i 0)))]) rfl (pc' := 7) rfl ?_
  have hcN := hB i
  generalize hcc : Hl.getD i 0 = ch at *
  have loop : ∀ (j : Nat) (H' : List Nat) (S' : List Int32) (hh : Heap), j < N → H'.length = N → S'.length = N → Bd N H' → upB Al ch H' S' j = (upB Al ch Hl Sl i) → Keep h0 hh [ha, sa] → Exa Z hh b "com/example/sightline/sightline/checker/ByActivity" → Fld Z hh b "com/example/sightline/sightline/checker/ByActivity" "activity" "[D" (.ref ka) → Fld Z hh b "com/example/sightline/sightline/checker/ByActivity" "heap" "[I" (.ref ha) → Fld Z hh b "com/example/sightline/sightline/checker/ByActivity" "slot" "[I" (.ref sa) → DV Z hh ka Al → HV Z hh ha H' → IV Z hh sa S' → Go p l e ({ frames := 1, cells := 0, slots := 0, locals := 14 } : Room) s m #[(.ref b), (.int (Int32.ofNat i))] below meth c n0 hh 0 0 (mkF m 7 #[.val (.ref b), .val (.int (Int32.ofNat j)), .val (.int (Int32.ofNat ch))] []) (fun v h => v = none ∧ Keep h0 h [ha, sa] ∧ HV Z h ha (upB Al ch Hl Sl i).1 ∧ IV Z h sa (upB Al ch Hl Sl i).2) := by
    intro j
    induction j using Nat.strongRecOn with
    | _ j ih =>
      intro H' S' hh hj hH' hS' hB' hup LP LE LF_act LF_heap LF_slot LVA LVH LVS
      refine Jvm.OwnWp.iloadN K d_prog_2_method_8_7 rfl (pc' := 8) rfl ?_
      by_cases c1 : 0 < (Int32.ofNat j)
      · refine ifN K d_prog_2_method_8_8 (XT.i0_le_f c1) (pc' := 11) rfl ?_
        have j0 := (o_pos (by omega : j < 1000)).mp c1
        have hp := hB' ((j - 1) / 2)
        refine Jvm.OwnWp.aloadN K d_prog_2_method_8_11 rfl rfl (pc' := 12) rfl ?_
        refine Jvm.OwnWp.getf K (wd24 hw) Via.refl LF_act d_prog_2_method_8_12 (pc' := 15) rfl ?_
        refine Jvm.OwnWp.aloadN K d_prog_2_method_8_15 rfl rfl (pc' := 16) rfl ?_
        refine Jvm.OwnWp.getf K (wd27 hw) Via.refl LF_heap d_prog_2_method_8_16 (pc' := 19) rfl ?_
        refine Jvm.OwnWp.iloadN K d_prog_2_method_8_19 rfl (pc' := 20) rfl ?_
        refine Jvm.OwnWp.iconst K (1 : Int32) d_prog_2_method_8_20 (by decide) (pc' := 21) rfl ?_
        refine Jvm.OwnWp.isub K d_prog_2_method_8_21 (pc' := 22) rfl ?_
        refine Jvm.OwnWp.iconst K (2 : Int32) d_prog_2_method_8_22 (by decide) (pc' := 23) rfl ?_
        refine Jvm.OwnWp.idiv K d_prog_2_method_8_23 (by decide) (pc' := 24) rfl ?_
        rw [show ((Int32.ofNat j) - (1 : Int32)) / (2 : Int32) = Int32.ofNat ((j - 1) / 2) from o_par j0 (by omega)]
        refine iaload K (i := ((j - 1) / 2)) LVH (o_int (by omega)) (mapAt (getDAt (d := 0) (by omega))) d_prog_2_method_8_24 (pc' := 25) rfl ?_
        refine daload K (i := (H'.getD ((j - 1) / 2) 0)) LVA (o_int (by omega)) (mapAt (getDAt (d := 0) (by omega))) d_prog_2_method_8_25 (pc' := 26) rfl ?_
        refine Jvm.OwnWp.aloadN K d_prog_2_method_8_26 rfl rfl (pc' := 27) rfl ?_
        refine Jvm.OwnWp.getf K (wd24 hw) Via.refl LF_act d_prog_2_method_8_27 (pc' := 30) rfl ?_
        refine Jvm.OwnWp.iloadN K d_prog_2_method_8_30 rfl (pc' := 31) rfl ?_
        refine daload K (i := ch) LVA (o_int (by omega)) (mapAt (getDAt (d := 0) (by omega))) d_prog_2_method_8_31 (pc' := 32) rfl ?_
        refine Jvm.OwnWp.dcmp K d_prog_2_method_8_32 (pc' := 33) rfl ?_
        by_cases c2 : FP.dcmp (Al.getD (H'.getD ((j - 1) / 2) 0) 0) (Al.getD ch 0) = some .lt
        · refine ifN K d_prog_2_method_8_33 (dd_g_ge_f c2) (pc' := 36) rfl ?_
          refine Jvm.OwnWp.aloadN K d_prog_2_method_8_36 rfl rfl (pc' := 37) rfl ?_
          refine Jvm.OwnWp.aloadN K d_prog_2_method_8_37 rfl rfl (pc' := 38) rfl ?_
          refine Jvm.OwnWp.getf K (wd27 hw) Via.refl LF_heap d_prog_2_method_8_38 (pc' := 41) rfl ?_
          refine Jvm.OwnWp.iloadN K d_prog_2_method_8_41 rfl (pc' := 42) rfl ?_
          refine Jvm.OwnWp.iconst K (1 : Int32) d_prog_2_method_8_42 (by decide) (pc' := 43) rfl ?_
          refine Jvm.OwnWp.isub K d_prog_2_method_8_43 (pc' := 44) rfl ?_
          refine Jvm.OwnWp.iconst K (2 : Int32) d_prog_2_method_8_44 (by decide) (pc' := 45) rfl ?_
          refine Jvm.OwnWp.idiv K d_prog_2_method_8_45 (by decide) (pc' := 46) rfl ?_
          rw [show ((Int32.ofNat j) - (1 : Int32)) / (2 : Int32) = Int32.ofNat ((j - 1) / 2) from o_par j0 (by omega)]
          refine iaload K (i := ((j - 1) / 2)) LVH (o_int (by omega)) (mapAt (getDAt (d := 0) (by omega))) d_prog_2_method_8_46 (pc' := 47) rfl ?_
          refine Jvm.OwnWp.iloadN K d_prog_2_method_8_47 rfl (pc' := 48) rfl ?_
          refine callPriv K (y := (⟨"com/example/sightline/sightline/checker/ByActivity", "place", "(II)V"⟩ : MethodName)) (b := b) (argsL := [(.int (Int32.ofNat (H'.getD ((j - 1) / 2) 0))), (.int (Int32.ofNat j))]) (S := []) (wd43 hw) (wd44 hw) (wd45 hw) (wd1 hw) (wd2 hw) (wd46 hw) (by decide) LE (c_place l Z a0 hw [] b ha sa (H'.getD ((j - 1) / 2) 0) j H' S' hh n0 (Nat.le_trans Z0 LP.1) (by omega) (by omega) (by omega) (by omega) LF_heap LF_slot LVH LVS ne_sa_ha ne_ha_b ne_sa_b ge_ha ge_sa) (lenOf pd0 rfl) d_prog_2_method_8_48 rfl (Nat.le_of_ble_eq_true rfl) (Nat.le_of_ble_eq_true rfl) (Nat.le_of_ble_eq_true rfl) (Nat.le_of_ble_eq_true rfl) rfl (pc' := 51) rfl ?_
          rintro v5 h5 ⟨rfl, K5, Q5_VH, Q5_VS⟩
          have F5_activity_b := (Fld.keep LF_act K5 (ninS (Ne.symm ne_ha_b) (ninS (Ne.symm ne_sa_b) (nin0))))
          have F5_heap_b := (Fld.keep LF_heap K5 (ninS (Ne.symm ne_ha_b) (ninS (Ne.symm ne_sa_b) (nin0))))
          have F5_slot_b := (Fld.keep LF_slot K5 (ninS (Ne.symm ne_ha_b) (ninS (Ne.symm ne_sa_b) (nin0))))
          have X5_b := (Exa.keep LE K5)
          have V5_ka := (LVA.keep K5 (ninS (Ne.symm ne_ha_ka) (ninS (Ne.symm ne_sa_ka) (nin0))))
          have P5 := (LP.trans K5 (allS (Or.inl (List.mem_of_getElem? (i := 0) rfl)) (allS (Or.inl (List.mem_of_getElem? (i := 1) rfl)) (all0))))
          show Go _ _ _ _ _ _ _ _ _ _ _ h5 0 0 (mkF m 51 #[.val (.ref b), .val (.int (Int32.ofNat j)), .val (.int (Int32.ofNat ch))] []) _
          refine Jvm.OwnWp.iloadN K d_prog_2_method_8_51 rfl (pc' := 52) rfl ?_
          refine Jvm.OwnWp.iconst K (1 : Int32) d_prog_2_method_8_52 (by decide) (pc' := 53) rfl ?_
          refine Jvm.OwnWp.isub K d_prog_2_method_8_53 (pc' := 54) rfl ?_
          refine Jvm.OwnWp.iconst K (2 : Int32) d_prog_2_method_8_54 (by decide) (pc' := 55) rfl ?_
          refine Jvm.OwnWp.idiv K d_prog_2_method_8_55 (by decide) (pc' := 56) rfl ?_
          rw [show ((Int32.ofNat j) - (1 : Int32)) / (2 : Int32) = Int32.ofNat ((j - 1) / 2) from o_par j0 (by omega)]
          refine Jvm.OwnWp.istoreN K d_prog_2_method_8_56 (Ls' := #[.val (.ref b), .val (.int (Int32.ofNat ((j - 1) / 2))), .val (.int (Int32.ofNat ch))]) rfl (pc' := 57) rfl ?_
          refine goto' K d_prog_2_method_8_57 (pc' := 7) (by decide) (by decide) ?_
          exact ih _ (by omega) _ _ _ (by omega) (by rw [List.length_set]; exact hH') (by rw [List.length_set]; exact hS') (hB'.set j hp) ((upB_go j0 c2).symm.trans hup) P5 X5_b F5_activity_b F5_heap_b F5_slot_b V5_ka Q5_VH Q5_VS
        · refine ifY K d_prog_2_method_8_33 (dd_g_ge_t c2) (pc' := 60) (by decide) (by decide) ?_
          have e := hup.symm.trans (upB_stop j0 c2)
          refine Jvm.OwnWp.aloadN K d_prog_2_method_8_60 rfl rfl (pc' := 61) rfl ?_
          refine Jvm.OwnWp.iloadN K d_prog_2_method_8_61 rfl (pc' := 62) rfl ?_
          refine Jvm.OwnWp.iloadN K d_prog_2_method_8_62 rfl (pc' := 63) rfl ?_
          refine callPriv K (y := (⟨"com/example/sightline/sightline/checker/ByActivity", "place", "(II)V"⟩ : MethodName)) (b := b) (argsL := [(.int (Int32.ofNat ch)), (.int (Int32.ofNat j))]) (S := []) (wd43 hw) (wd44 hw) (wd45 hw) (wd1 hw) (wd2 hw) (wd46 hw) (by decide) LE (c_place l Z a0 hw [] b ha sa ch j H' S' hh n0 (Nat.le_trans Z0 LP.1) (by omega) (by omega) (by omega) (by omega) LF_heap LF_slot LVH LVS ne_sa_ha ne_ha_b ne_sa_b ge_ha ge_sa) (lenOf pd0 rfl) d_prog_2_method_8_63 rfl (Nat.le_of_ble_eq_true rfl) (Nat.le_of_ble_eq_true rfl) (Nat.le_of_ble_eq_true rfl) (Nat.le_of_ble_eq_true rfl) rfl (pc' := 66) rfl ?_
          rintro v6 h6 ⟨rfl, K6, Q6_VH, Q6_VS⟩
          have F6_activity_b := (Fld.keep LF_act K6 (ninS (Ne.symm ne_ha_b) (ninS (Ne.symm ne_sa_b) (nin0))))
          have F6_heap_b := (Fld.keep LF_heap K6 (ninS (Ne.symm ne_ha_b) (ninS (Ne.symm ne_sa_b) (nin0))))
          have F6_slot_b := (Fld.keep LF_slot K6 (ninS (Ne.symm ne_ha_b) (ninS (Ne.symm ne_sa_b) (nin0))))
          have X6_b := (Exa.keep LE K6)
          have V6_ka := (LVA.keep K6 (ninS (Ne.symm ne_ha_ka) (ninS (Ne.symm ne_sa_ka) (nin0))))
          have P6 := (LP.trans K6 (allS (Or.inl (List.mem_of_getElem? (i := 0) rfl)) (allS (Or.inl (List.mem_of_getElem? (i := 1) rfl)) (all0))))
          show Go _ _ _ _ _ _ _ _ _ _ _ h6 0 0 (mkF m 66 #[.val (.ref b), .val (.int (Int32.ofNat j)), .val (.int (Int32.ofNat ch))] []) _
          refine retV K rfl d_prog_2_method_8_66 (Nat.le_of_ble_eq_true rfl) (Nat.le_of_ble_eq_true rfl) ?_
          rw [e]
          exact ⟨rfl, P6, Q6_VH, Q6_VS⟩
      · refine ifY K d_prog_2_method_8_8 (XT.i0_le_t c1) (pc' := 60) (by decide) (by decide) ?_
        have e := hup.symm.trans (upB_zero (fun q => c1 ((o_pos (by omega)).mpr q)))
        refine Jvm.OwnWp.aloadN K d_prog_2_method_8_60 rfl rfl (pc' := 61) rfl ?_
        refine Jvm.OwnWp.iloadN K d_prog_2_method_8_61 rfl (pc' := 62) rfl ?_
        refine Jvm.OwnWp.iloadN K d_prog_2_method_8_62 rfl (pc' := 63) rfl ?_
        refine callPriv K (y := (⟨"com/example/sightline/sightline/checker/ByActivity", "place", "(II)V"⟩ : MethodName)) (b := b) (argsL := [(.int (Int32.ofNat ch)), (.int (Int32.ofNat j))]) (S := []) (wd43 hw) (wd44 hw) (wd45 hw) (wd1 hw) (wd2 hw) (wd46 hw) (by decide) LE (c_place l Z a0 hw [] b ha sa ch j H' S' hh n0 (Nat.le_trans Z0 LP.1) (by omega) (by omega) (by omega) (by omega) LF_heap LF_slot LVH LVS ne_sa_ha ne_ha_b ne_sa_b ge_ha ge_sa) (lenOf pd0 rfl) d_prog_2_method_8_63 rfl (Nat.le_of_ble_eq_true rfl) (Nat.le_of_ble_eq_true rfl) (Nat.le_of_ble_eq_true rfl) (Nat.le_of_ble_eq_true rfl) rfl (pc' := 66) rfl ?_
        rintro v7 h7 ⟨rfl, K7, Q7_VH, Q7_VS⟩
        have F7_activity_b := (Fld.keep LF_act K7 (ninS (Ne.symm ne_ha_b) (ninS (Ne.symm ne_sa_b) (nin0))))
        have F7_heap_b := (Fld.keep LF_heap K7 (ninS (Ne.symm ne_ha_b) (ninS (Ne.symm ne_sa_b) (nin0))))
        have F7_slot_b := (Fld.keep LF_slot K7 (ninS (Ne.symm ne_ha_b) (ninS (Ne.symm ne_sa_b) (nin0))))
        have X7_b := (Exa.keep LE K7)
        have V7_ka := (LVA.keep K7 (ninS (Ne.symm ne_ha_ka) (ninS (Ne.symm ne_sa_ka) (nin0))))
        have P7 := (LP.trans K7 (allS (Or.inl (List.mem_of_getElem? (i := 0) rfl)) (allS (Or.inl (List.mem_of_getElem? (i := 1) rfl)) (all0))))
        show Go _ _ _ _ _ _ _ _ _ _ _ h7 0 0 (mkF m 66 #[.val (.ref b), .val (.int (Int32.ofNat j)), .val (.int (Int32.ofNat ch))] []) _
        refine retV K rfl d_prog_2_method_8_66 (Nat.le_of_ble_eq_true rfl) (Nat.le_of_ble_eq_true rfl) ?_
        rw [e]
        exact ⟨rfl, P7, Q7_VH, Q7_VS⟩
  exact loop i Hl Sl _ hiN hH hS hB rfl P0 E F_act F_heap F_slot VA VH VS
set_option maxRecDepth 65536 in
set_option maxHeartbeats 40000000 in
theorem c_push (l : Launch) (Z : State) (a0 : Array Value) (hw : ∀ d ∈ tables_1, d.before a0 Z = true) (ws : List Jvm.Cond) (b ka ha sa : Addr) (N n : Nat) (g : UInt64) (Al : List UInt64) (Hl : List Nat) (Sl : List Int32) (ch : Nat) (h0 : Heap) (n0 : Nat) (Z0 : n0 ≤ h0.size) (hA : Al.length = N) (hH : Hl.length = N) (hS : Sl.length = N) (N0 : 0 < N) (N9 : N < 100) (hB : Bd N Hl) (hn : n < N) (hc : ch < N) (E : Exa Z h0 b "com/example/sightline/sightline/checker/ByActivity") (F_act : Fld Z h0 b "com/example/sightline/sightline/checker/ByActivity" "activity" "[D" (.ref ka)) (F_heap : Fld Z h0 b "com/example/sightline/sightline/checker/ByActivity" "heap" "[I" (.ref ha)) (F_slot : Fld Z h0 b "com/example/sightline/sightline/checker/ByActivity" "slot" "[I" (.ref sa)) (F_count : Fld Z h0 b "com/example/sightline/sightline/checker/ByActivity" "count" "I" (.int (Int32.ofNat n))) (F_gain : Fld Z h0 b "com/example/sightline/sightline/checker/ByActivity" "gain" "D" (.double g)) (F_choices : Fld Z h0 b "com/example/sightline/sightline/checker/ByActivity" "choices" "I" (.int (Int32.ofNat N))) (VA : DV Z h0 ka Al) (VH : HV Z h0 ha Hl) (VS : IV Z h0 sa Sl) (ne_ka_b : ka ≠ b) (ne_ha_b : ha ≠ b) (ne_sa_b : sa ≠ b) (ne_ha_ka : ha ≠ ka) (ne_sa_ka : sa ≠ ka) (ne_sa_ha : sa ≠ ha) (ge_b : n0 ≤ b) (ge_ka : n0 ≤ ka) (ge_ha : n0 ≤ ha) (ge_sa : n0 ≤ sa) :
    Ctr l Z (⟨"com/example/sightline/sightline/checker/ByActivity", "push", "(I)V"⟩ : MethodName) prog_2_method_6_code 2 none ws ({ frames := 2, cells := 0, slots := 0, locals := 28 } : Room) n0 #[(.ref b), (.int (Int32.ofNat ch))] h0 (fun v h => v = none ∧ Keep h0 h [b, ha, sa] ∧ Exa Z h b "com/example/sightline/sightline/checker/ByActivity" ∧ Fld Z h b "com/example/sightline/sightline/checker/ByActivity" "activity" "[D" (.ref ka) ∧ Fld Z h b "com/example/sightline/sightline/checker/ByActivity" "heap" "[I" (.ref ha) ∧ Fld Z h b "com/example/sightline/sightline/checker/ByActivity" "slot" "[I" (.ref sa) ∧ Fld Z h b "com/example/sightline/sightline/checker/ByActivity" "count" "I" (.int (Int32.ofNat (n + 1))) ∧ Fld Z h b "com/example/sightline/sightline/checker/ByActivity" "gain" "D" (.double g) ∧ Fld Z h b "com/example/sightline/sightline/checker/ByActivity" "choices" "I" (.int (Int32.ofNat N)) ∧ DV Z h ka Al ∧ HV Z h ha (pushB Al ch Hl Sl n).1 ∧ IV Z h sa (pushB Al ch Hl Sl n).2) := by
  refine ctr (own := "com/example/sightline/sightline/checker/ByActivity") (nm := "push") rfl rfl (Ls := #[.val (.ref b), .val (.int (Int32.ofNat ch))]) (plainFor_of_name pn0) (fun m => by first | (simp [entryFrame, mkF, argsToLocals, Value.category]; done) | rfl) ?_
  intro p e s m below meth c K eh
  have P0 := Keep.refl h0 [b, ha, sa]
  refine Jvm.OwnWp.aloadN K d_prog_2_method_6_0 rfl rfl (pc' := 1) rfl ?_
  refine Jvm.OwnWp.iloadN K d_prog_2_method_6_1 rfl (pc' := 2) rfl ?_
  refine Jvm.OwnWp.aloadN K d_prog_2_method_6_2 rfl rfl (pc' := 3) rfl ?_
  refine Jvm.OwnWp.dup K d_prog_2_method_6_3 rfl (pc' := 4) rfl ?_
  refine Jvm.OwnWp.getf K (wd41 hw) Via.refl F_count d_prog_2_method_6_4 (pc' := 7) rfl ?_
  refine Jvm.OwnWp.dupX1 K d_prog_2_method_6_7 rfl rfl (pc' := 8) rfl ?_
  refine Jvm.OwnWp.iconst K (1 : Int32) d_prog_2_method_6_8 (by decide) (pc' := 9) rfl ?_
  refine Jvm.OwnWp.iadd K d_prog_2_method_6_9 (pc' := 10) rfl ?_
  rw [show (Int32.ofNat n) + (1 : Int32) = Int32.ofNat (n + 1) from o_add1 (by omega)]
  refine putf K (wd41 hw) Via.refl F_count E (Or.inl (wd42 hw)) (wd1 hw) (ty := .int) (by decide) rfl rfl ge_b d_prog_2_method_6_10 (pc' := 13) rfl ?_
  intro h8 W8
  have F8_activity_b := (Fld.other W8 F_act (Or.inr (sn_ByActivity_activity_count hw)))
  have F8_heap_b := (Fld.other W8 F_heap (Or.inr (sn_ByActivity_heap_count hw)))
  have F8_slot_b := (Fld.other W8 F_slot (Or.inr (sn_ByActivity_slot_count hw)))
  have F8_gain_b := (Fld.other W8 F_gain (Or.inr (sn_ByActivity_gain_count hw)))
  have F8_choices_b := (Fld.other W8 F_choices (Or.inr (sn_ByActivity_choices_count hw)))
  have X8_b := (Exa.wr W8 E)
  have V8_ka := (VA.other W8 ne_ka_b)
  have V8_ha := (VH.other W8 ne_ha_b)
  have V8_sa := (VS.other W8 ne_sa_b)
  have P8 := (P0.wr W8 (Or.inl (List.mem_of_getElem? (i := 0) rfl)))
  have F8_count_b := Fld.same W8 F_count
  refine callPriv K (y := (⟨"com/example/sightline/sightline/checker/ByActivity", "place", "(II)V"⟩ : MethodName)) (b := b) (argsL := [(.int (Int32.ofNat ch)), (.int (Int32.ofNat n))]) (S := []) (wd43 hw) (wd44 hw) (wd45 hw) (wd1 hw) (wd2 hw) (wd46 hw) (by decide) X8_b (c_place l Z a0 hw [] b ha sa ch n Hl Sl h8 n0 (Nat.le_trans Z0 P8.1) (by omega) (by omega) (by omega) (by omega) F8_heap_b F8_slot_b V8_ha V8_sa ne_sa_ha ne_ha_b ne_sa_b ge_ha ge_sa) (lenOf pd0 rfl) d_prog_2_method_6_13 rfl (Nat.le_of_ble_eq_true rfl) (Nat.le_of_ble_eq_true rfl) (Nat.le_of_ble_eq_true rfl) (Nat.le_of_ble_eq_true rfl) rfl (pc' := 16) rfl ?_
  rintro v9 h9 ⟨rfl, K9, Q9_VH, Q9_VS⟩
  have F9_activity_b := (Fld.keep F8_activity_b K9 (ninS (Ne.symm ne_ha_b) (ninS (Ne.symm ne_sa_b) (nin0))))
  have F9_heap_b := (Fld.keep F8_heap_b K9 (ninS (Ne.symm ne_ha_b) (ninS (Ne.symm ne_sa_b) (nin0))))
  have F9_slot_b := (Fld.keep F8_slot_b K9 (ninS (Ne.symm ne_ha_b) (ninS (Ne.symm ne_sa_b) (nin0))))
  have F9_count_b := (Fld.keep F8_count_b K9 (ninS (Ne.symm ne_ha_b) (ninS (Ne.symm ne_sa_b) (nin0))))
  have F9_gain_b := (Fld.keep F8_gain_b K9 (ninS (Ne.symm ne_ha_b) (ninS (Ne.symm ne_sa_b) (nin0))))
  have F9_choices_b := (Fld.keep F8_choices_b K9 (ninS (Ne.symm ne_ha_b) (ninS (Ne.symm ne_sa_b) (nin0))))
  have X9_b := (Exa.keep X8_b K9)
  have V9_ka := (V8_ka.keep K9 (ninS (Ne.symm ne_ha_ka) (ninS (Ne.symm ne_sa_ka) (nin0))))
  have P9 := (P8.trans K9 (allS (Or.inl (List.mem_of_getElem? (i := 1) rfl)) (allS (Or.inl (List.mem_of_getElem? (i := 2) rfl)) (all0))))
  show Go _ _ _ _ _ _ _ _ _ _ _ h9 0 0 (mkF m 16 #[.val (.ref b), .val (.int (Int32.ofNat ch))] []) _
  refine Jvm.OwnWp.aloadN K d_prog_2_method_6_16 rfl rfl (pc' := 17) rfl ?_
  refine Jvm.OwnWp.aloadN K d_prog_2_method_6_17 rfl rfl (pc' := 18) rfl ?_
  refine Jvm.OwnWp.getf K (wd41 hw) Via.refl F9_count_b d_prog_2_method_6_18 (pc' := 21) rfl ?_
  refine Jvm.OwnWp.iconst K (1 : Int32) d_prog_2_method_6_21 (by decide) (pc' := 22) rfl ?_
  refine Jvm.OwnWp.isub K d_prog_2_method_6_22 (pc' := 23) rfl ?_
  rw [show (Int32.ofNat (n + 1)) - (1 : Int32) = Int32.ofNat n from o_sub1 (n := n + 1) (by omega) (by omega)]
  refine callPriv K (y := (⟨"com/example/sightline/sightline/checker/ByActivity", "up", "(I)V"⟩ : MethodName)) (b := b) (argsL := [(.int (Int32.ofNat n))]) (S := []) (wd47 hw) (wd48 hw) (wd49 hw) (wd1 hw) (wd2 hw) (wd50 hw) (by decide) X9_b (c_up l Z a0 hw [] b ka ha sa N n Al (Hl.set n ch) (Sl.set ch (Int32.ofNat n)) h9 n0 (Nat.le_trans Z0 P9.1) hA (by rw [List.length_set]; exact hH) (by rw [List.length_set]; exact hS) N0 N9 (hB.set n hc) hn X9_b F9_activity_b F9_heap_b F9_slot_b V9_ka Q9_VH Q9_VS ne_sa_ha ne_ha_ka ne_sa_ka ne_ha_b ne_sa_b ge_ha ge_sa) (lenOf pd1 rfl) d_prog_2_method_6_23 rfl (Nat.le_of_ble_eq_true rfl) (Nat.le_of_ble_eq_true rfl) (Nat.le_of_ble_eq_true rfl) (Nat.le_of_ble_eq_true rfl) rfl (pc' := 26) rfl ?_
  rintro v10 h10 ⟨rfl, K10, Q10_VH, Q10_VS⟩
  have F10_activity_b := (Fld.keep F9_activity_b K10 (ninS (Ne.symm ne_ha_b) (ninS (Ne.symm ne_sa_b) (nin0))))
  have F10_heap_b := (Fld.keep F9_heap_b K10 (ninS (Ne.symm ne_ha_b) (ninS (Ne.symm ne_sa_b) (nin0))))
  have F10_slot_b := (Fld.keep F9_slot_b K10 (ninS (Ne.symm ne_ha_b) (ninS (Ne.symm ne_sa_b) (nin0))))
  have F10_count_b := (Fld.keep F9_count_b K10 (ninS (Ne.symm ne_ha_b) (ninS (Ne.symm ne_sa_b) (nin0))))
  have F10_gain_b := (Fld.keep F9_gain_b K10 (ninS (Ne.symm ne_ha_b) (ninS (Ne.symm ne_sa_b) (nin0))))
  have F10_choices_b := (Fld.keep F9_choices_b K10 (ninS (Ne.symm ne_ha_b) (ninS (Ne.symm ne_sa_b) (nin0))))
  have X10_b := (Exa.keep X9_b K10)
  have V10_ka := (V9_ka.keep K10 (ninS (Ne.symm ne_ha_ka) (ninS (Ne.symm ne_sa_ka) (nin0))))
  have P10 := (P9.trans K10 (allS (Or.inl (List.mem_of_getElem? (i := 1) rfl)) (allS (Or.inl (List.mem_of_getElem? (i := 2) rfl)) (all0))))
  show Go _ _ _ _ _ _ _ _ _ _ _ h10 0 0 (mkF m 26 #[.val (.ref b), .val (.int (Int32.ofNat ch))] []) _
  have er : upB Al ((Hl.set n ch).getD n 0) (Hl.set n ch) (Sl.set ch (Int32.ofNat n)) n = pushB Al ch Hl Sl n := by
    unfold pushB; congr 1; rw [List.getD_eq_getElem?_getD, List.getElem?_set, if_pos rfl, if_pos (by omega)]; rfl
  rw [er] at Q10_VH Q10_VS
  refine retV K rfl d_prog_2_method_6_26 (Nat.le_of_ble_eq_true rfl) (Nat.le_of_ble_eq_true rfl) ?_
  exact ⟨rfl, P10, X10_b, F10_activity_b, F10_heap_b, F10_slot_b, F10_count_b, F10_gain_b, F10_choices_b, V10_ka, Q10_VH, Q10_VS⟩
set_option maxRecDepth 65536 in
set_option maxHeartbeats 40000000 in
theorem c_down (l : Launch) (Z : State) (a0 : Array Value) (hw : ∀ d ∈ tables_1, d.before a0 Z = true) (ws : List Jvm.Cond) (b ka ha sa : Addr) (N n i : Nat) (Al : List UInt64) (Hl : List Nat) (Sl : List Int32) (h0 : Heap) (n0 : Nat) (Z0 : n0 ≤ h0.size) (hA : Al.length = N) (hH : Hl.length = N) (hS : Sl.length = N) (N0 : 0 < N) (N9 : N < 100) (hB : Bd N Hl) (hiN : i < N) (hnN : n ≤ N) (E : Exa Z h0 b "com/example/sightline/sightline/checker/ByActivity") (F_act : Fld Z h0 b "com/example/sightline/sightline/checker/ByActivity" "activity" "[D" (.ref ka)) (F_heap : Fld Z h0 b "com/example/sightline/sightline/checker/ByActivity" "heap" "[I" (.ref ha)) (F_slot : Fld Z h0 b "com/example/sightline/sightline/checker/ByActivity" "slot" "[I" (.ref sa)) (VA : DV Z h0 ka Al) (VH : HV Z h0 ha Hl) (VS : IV Z h0 sa Sl) (F_count : Fld Z h0 b "com/example/sightline/sightline/checker/ByActivity" "count" "I" (.int (Int32.ofNat n))) (ne_sa_ha : sa ≠ ha) (ne_ha_ka : ha ≠ ka) (ne_sa_ka : sa ≠ ka) (ne_ha_b : ha ≠ b) (ne_sa_b : sa ≠ b) (ge_ha : n0 ≤ ha) (ge_sa : n0 ≤ sa) :
    Ctr l Z (⟨"com/example/sightline/sightline/checker/ByActivity", "down", "(I)V"⟩ : MethodName) prog_2_method_9_code 4 none ws ({ frames := 1, cells := 0, slots := 0, locals := 14 } : Room) n0 #[(.ref b), (.int (Int32.ofNat i))] h0 (fun v h => v = none ∧ Keep h0 h [ha, sa] ∧ HV Z h ha (downB Al n (Hl.getD i 0) Hl Sl i).1 ∧ IV Z h sa (downB Al n (Hl.getD i 0) Hl Sl i).2) := by
  refine ctr (own := "com/example/sightline/sightline/checker/ByActivity") (nm := "down") rfl rfl (Ls := #[.val (.ref b), .val (.int (Int32.ofNat i)), .unset, .unset]) (plainFor_of_name pn0) (fun m => by first | (simp [entryFrame, mkF, argsToLocals, Value.category]; done) | rfl) ?_
  intro p e s m below meth c K eh
  have P0 := Keep.refl h0 [ha, sa]
  refine Jvm.OwnWp.aloadN K d_prog_2_method_9_0 rfl rfl (pc' := 1) rfl ?_
  refine Jvm.OwnWp.getf K (wd27 hw) Via.refl F_heap d_prog_2_method_9_1 (pc' := 4) rfl ?_
  refine Jvm.OwnWp.iloadN K d_prog_2_method_9_4 rfl (pc' := 5) rfl ?_
  refine iaload K (i := i) VH (o_int (by omega)) (mapAt (getDAt (d := 0) (by omega))) d_prog_2_method_9_5 (pc' := 6) rfl ?_
  refine Jvm.OwnWp.istoreN K d_prog_2_method_9_6 (Ls' := #[.val (.ref b), .val (.int (Int32.ofNat i)), .val (.int (Int32.ofNat (Hl.getD i 0))), .unset]) rfl (pc' := 7) rfl ?_
  have hcN := hB i
  generalize hcc : Hl.getD i 0 = ch at *
  have loop : ∀ (f j : Nat) (o3 : Slot) (H' : List Nat) (S' : List Int32) (hh : Heap), n - j ≤ f → One o3 → j < N → H'.length = N → S'.length = N → Bd N H' → downB Al n ch H' S' j = (downB Al n ch Hl Sl i) → Keep h0 hh [ha, sa] → Exa Z hh b "com/example/sightline/sightline/checker/ByActivity" → Fld Z hh b "com/example/sightline/sightline/checker/ByActivity" "activity" "[D" (.ref ka) → Fld Z hh b "com/example/sightline/sightline/checker/ByActivity" "heap" "[I" (.ref ha) → Fld Z hh b "com/example/sightline/sightline/checker/ByActivity" "slot" "[I" (.ref sa) → DV Z hh ka Al → HV Z hh ha H' → IV Z hh sa S' → Fld Z hh b "com/example/sightline/sightline/checker/ByActivity" "count" "I" (.int (Int32.ofNat n)) → Go p l e ({ frames := 1, cells := 0, slots := 0, locals := 14 } : Room) s m #[(.ref b), (.int (Int32.ofNat i))] below meth c n0 hh 0 0 (mkF m 7 #[.val (.ref b), .val (.int (Int32.ofNat j)), .val (.int (Int32.ofNat ch)), o3] []) (fun v h => v = none ∧ Keep h0 h [ha, sa] ∧ HV Z h ha (downB Al n ch Hl Sl i).1 ∧ IV Z h sa (downB Al n ch Hl Sl i).2) := by
    intro f
    induction f with
    | zero =>
      intro j o3 H' S' hh hf ho3 hj hH' hS' hB' hup LP LE LF_act LF_heap LF_slot LVA LVH LVS LF_count
      refine Jvm.OwnWp.iconst K (2 : Int32) d_prog_2_method_9_7 (by decide) (pc' := 8) rfl ?_
      refine Jvm.OwnWp.iloadN K d_prog_2_method_9_8 rfl (pc' := 9) rfl ?_
      refine Jvm.OwnWp.imul K d_prog_2_method_9_9 (pc' := 10) rfl ?_
      refine Jvm.OwnWp.iconst K (1 : Int32) d_prog_2_method_9_10 (by decide) (pc' := 11) rfl ?_
      refine Jvm.OwnWp.iadd K d_prog_2_method_9_11 (pc' := 12) rfl ?_
      rw [show ((2 : Int32) * (Int32.ofNat j)) + (1 : Int32) = Int32.ofNat (2 * j + 1) from o_kid1 (by omega)]
      refine Jvm.OwnWp.aloadN K d_prog_2_method_9_12 rfl rfl (pc' := 13) rfl ?_
      refine Jvm.OwnWp.getf K (wd41 hw) Via.refl LF_count d_prog_2_method_9_13 (pc' := 16) rfl ?_
      refine icY K d_prog_2_method_9_16 (XT.ii_ge_t (fun q => absurd ((o_lt (by omega) (by omega)).mp q) (by omega))) (pc' := 106) (by decide) (by decide) ?_
      have e := hup.symm.trans (downB_end (by omega))
      refine Jvm.OwnWp.aloadN K d_prog_2_method_9_106 rfl rfl (pc' := 107) rfl ?_
      refine Jvm.OwnWp.iloadN K d_prog_2_method_9_107 rfl (pc' := 108) rfl ?_
      refine Jvm.OwnWp.iloadN K d_prog_2_method_9_108 rfl (pc' := 109) rfl ?_
      refine callPriv K (y := (⟨"com/example/sightline/sightline/checker/ByActivity", "place", "(II)V"⟩ : MethodName)) (b := b) (argsL := [(.int (Int32.ofNat ch)), (.int (Int32.ofNat j))]) (S := []) (wd43 hw) (wd44 hw) (wd45 hw) (wd1 hw) (wd2 hw) (wd46 hw) (by decide) LE (c_place l Z a0 hw [] b ha sa ch j H' S' hh n0 (Nat.le_trans Z0 LP.1) (by omega) (by omega) (by omega) (by omega) LF_heap LF_slot LVH LVS ne_sa_ha ne_ha_b ne_sa_b ge_ha ge_sa) (lenOf pd0 rfl) d_prog_2_method_9_109 rfl (Nat.le_of_ble_eq_true rfl) (Nat.le_of_ble_eq_true rfl) (Nat.le_of_ble_eq_true rfl) (Nat.le_of_ble_eq_true rfl) rfl (pc' := 112) rfl ?_
      rintro v11 h11 ⟨rfl, K11, Q11_VH, Q11_VS⟩
      have F11_activity_b := (Fld.keep LF_act K11 (ninS (Ne.symm ne_ha_b) (ninS (Ne.symm ne_sa_b) (nin0))))
      have F11_heap_b := (Fld.keep LF_heap K11 (ninS (Ne.symm ne_ha_b) (ninS (Ne.symm ne_sa_b) (nin0))))
      have F11_slot_b := (Fld.keep LF_slot K11 (ninS (Ne.symm ne_ha_b) (ninS (Ne.symm ne_sa_b) (nin0))))
      have F11_count_b := (Fld.keep LF_count K11 (ninS (Ne.symm ne_ha_b) (ninS (Ne.symm ne_sa_b) (nin0))))
      have X11_b := (Exa.keep LE K11)
      have V11_ka := (LVA.keep K11 (ninS (Ne.symm ne_ha_ka) (ninS (Ne.symm ne_sa_ka) (nin0))))
      have P11 := (LP.trans K11 (allS (Or.inl (List.mem_of_getElem? (i := 0) rfl)) (allS (Or.inl (List.mem_of_getElem? (i := 1) rfl)) (all0))))
      show Go _ _ _ _ _ _ _ _ _ _ _ h11 0 0 (mkF m 112 #[.val (.ref b), .val (.int (Int32.ofNat j)), .val (.int (Int32.ofNat ch)), o3] []) _
      refine retV K rfl d_prog_2_method_9_112 (Nat.le_of_ble_eq_true rfl) (Nat.le_of_ble_eq_true rfl) ?_
      rw [e]
      exact ⟨rfl, P11, Q11_VH, Q11_VS⟩
    | succ f ih =>
      intro j o3 H' S' hh hf ho3 hj hH' hS' hB' hup LP LE LF_act LF_heap LF_slot LVA LVH LVS LF_count
      refine Jvm.OwnWp.iconst K (2 : Int32) d_prog_2_method_9_7 (by decide) (pc' := 8) rfl ?_
      refine Jvm.OwnWp.iloadN K d_prog_2_method_9_8 rfl (pc' := 9) rfl ?_
      refine Jvm.OwnWp.imul K d_prog_2_method_9_9 (pc' := 10) rfl ?_
      refine Jvm.OwnWp.iconst K (1 : Int32) d_prog_2_method_9_10 (by decide) (pc' := 11) rfl ?_
      refine Jvm.OwnWp.iadd K d_prog_2_method_9_11 (pc' := 12) rfl ?_
      rw [show ((2 : Int32) * (Int32.ofNat j)) + (1 : Int32) = Int32.ofNat (2 * j + 1) from o_kid1 (by omega)]
      refine Jvm.OwnWp.aloadN K d_prog_2_method_9_12 rfl rfl (pc' := 13) rfl ?_
      refine Jvm.OwnWp.getf K (wd41 hw) Via.refl LF_count d_prog_2_method_9_13 (pc' := 16) rfl ?_
      by_cases c1 : (Int32.ofNat (2 * j + 1)) < (Int32.ofNat n)
      · refine icN K d_prog_2_method_9_16 (XT.ii_ge_f c1) (pc' := 19) rfl ?_
        have j1 := (o_lt (by omega : 2 * j + 1 < 1000) (by omega : n < 1000)).mp c1
        refine Jvm.OwnWp.iconst K (2 : Int32) d_prog_2_method_9_19 (by decide) (pc' := 20) rfl ?_
        refine Jvm.OwnWp.iloadN K d_prog_2_method_9_20 rfl (pc' := 21) rfl ?_
        refine Jvm.OwnWp.imul K d_prog_2_method_9_21 (pc' := 22) rfl ?_
        refine Jvm.OwnWp.iconst K (1 : Int32) d_prog_2_method_9_22 (by decide) (pc' := 23) rfl ?_
        refine Jvm.OwnWp.iadd K d_prog_2_method_9_23 (pc' := 24) rfl ?_
        rw [show ((2 : Int32) * (Int32.ofNat j)) + (1 : Int32) = Int32.ofNat (2 * j + 1) from o_kid1 (by omega)]
        refine Jvm.OwnWp.istoreNS K d_prog_2_method_9_24 rfl ho3 (Ls' := #[.val (.ref b), .val (.int (Int32.ofNat j)), .val (.int (Int32.ofNat ch)), .val (.int (Int32.ofNat (2 * j + 1)))]) rfl (pc' := 25) rfl ?_
        refine Jvm.OwnWp.iloadN K d_prog_2_method_9_25 rfl (pc' := 26) rfl ?_
        refine Jvm.OwnWp.iconst K (1 : Int32) d_prog_2_method_9_26 (by decide) (pc' := 27) rfl ?_
        refine Jvm.OwnWp.iadd K d_prog_2_method_9_27 (pc' := 28) rfl ?_
        rw [show (Int32.ofNat (2 * j + 1)) + (1 : Int32) = Int32.ofNat (2 * j + 2) from o_add1 (n := 2 * j + 1) (by omega)]
        refine Jvm.OwnWp.aloadN K d_prog_2_method_9_28 rfl rfl (pc' := 29) rfl ?_
        refine Jvm.OwnWp.getf K (wd41 hw) Via.refl LF_count d_prog_2_method_9_29 (pc' := 32) rfl ?_
        have join : Go p l e ({ frames := 1, cells := 0, slots := 0, locals := 14 } : Room) s m #[(.ref b), (.int (Int32.ofNat i))] below meth c n0 hh 0 0 (mkF m 66 #[.val (.ref b), .val (.int (Int32.ofNat j)), .val (.int (Int32.ofNat ch)), .val (.int (Int32.ofNat (kidB Al n H' j)))] []) (fun v h => v = none ∧ Keep h0 h [ha, sa] ∧ HV Z h ha (downB Al n ch Hl Sl i).1 ∧ IV Z h sa (downB Al n ch Hl Sl i).2) := by
          have hkb := kidB_bd Al n H' j
          have hkN : kidB Al n H' j < N := by omega
          have hk2 := hB' (kidB Al n H' j)
          refine Jvm.OwnWp.aloadN K d_prog_2_method_9_66 rfl rfl (pc' := 67) rfl ?_
          refine Jvm.OwnWp.getf K (wd24 hw) Via.refl LF_act d_prog_2_method_9_67 (pc' := 70) rfl ?_
          refine Jvm.OwnWp.aloadN K d_prog_2_method_9_70 rfl rfl (pc' := 71) rfl ?_
          refine Jvm.OwnWp.getf K (wd27 hw) Via.refl LF_heap d_prog_2_method_9_71 (pc' := 74) rfl ?_
          refine Jvm.OwnWp.iloadN K d_prog_2_method_9_74 rfl (pc' := 75) rfl ?_
          refine iaload K (i := (kidB Al n H' j)) LVH (o_int (by omega)) (mapAt (getDAt (d := 0) (by omega))) d_prog_2_method_9_75 (pc' := 76) rfl ?_
          refine daload K (i := (H'.getD (kidB Al n H' j) 0)) LVA (o_int (by omega)) (mapAt (getDAt (d := 0) (by omega))) d_prog_2_method_9_76 (pc' := 77) rfl ?_
          refine Jvm.OwnWp.aloadN K d_prog_2_method_9_77 rfl rfl (pc' := 78) rfl ?_
          refine Jvm.OwnWp.getf K (wd24 hw) Via.refl LF_act d_prog_2_method_9_78 (pc' := 81) rfl ?_
          refine Jvm.OwnWp.iloadN K d_prog_2_method_9_81 rfl (pc' := 82) rfl ?_
          refine daload K (i := ch) LVA (o_int (by omega)) (mapAt (getDAt (d := 0) (by omega))) d_prog_2_method_9_82 (pc' := 83) rfl ?_
          refine Jvm.OwnWp.dcmp K d_prog_2_method_9_83 (pc' := 84) rfl ?_
          by_cases c2 : Jvm.OwnWp.dle (FP.dcmp (Al.getD (H'.getD (kidB Al n H' j) 0) 0) (Al.getD ch 0))
          · refine ifN K d_prog_2_method_9_84 (dd_g_gt_f c2) (pc' := 87) rfl ?_
            refine goto' K d_prog_2_method_9_87 (pc' := 106) (by decide) (by decide) ?_
            have e := hup.symm.trans (downB_stop j1 c2)
            refine Jvm.OwnWp.aloadN K d_prog_2_method_9_106 rfl rfl (pc' := 107) rfl ?_
            refine Jvm.OwnWp.iloadN K d_prog_2_method_9_107 rfl (pc' := 108) rfl ?_
            refine Jvm.OwnWp.iloadN K d_prog_2_method_9_108 rfl (pc' := 109) rfl ?_
            refine callPriv K (y := (⟨"com/example/sightline/sightline/checker/ByActivity", "place", "(II)V"⟩ : MethodName)) (b := b) (argsL := [(.int (Int32.ofNat ch)), (.int (Int32.ofNat j))]) (S := []) (wd43 hw) (wd44 hw) (wd45 hw) (wd1 hw) (wd2 hw) (wd46 hw) (by decide) LE (c_place l Z a0 hw [] b ha sa ch j H' S' hh n0 (Nat.le_trans Z0 LP.1) (by omega) (by omega) (by omega) (by omega) LF_heap LF_slot LVH LVS ne_sa_ha ne_ha_b ne_sa_b ge_ha ge_sa) (lenOf pd0 rfl) d_prog_2_method_9_109 rfl (Nat.le_of_ble_eq_true rfl) (Nat.le_of_ble_eq_true rfl) (Nat.le_of_ble_eq_true rfl) (Nat.le_of_ble_eq_true rfl) rfl (pc' := 112) rfl ?_
            rintro v12 h12 ⟨rfl, K12, Q12_VH, Q12_VS⟩
            have F12_activity_b := (Fld.keep LF_act K12 (ninS (Ne.symm ne_ha_b) (ninS (Ne.symm ne_sa_b) (nin0))))
            have F12_heap_b := (Fld.keep LF_heap K12 (ninS (Ne.symm ne_ha_b) (ninS (Ne.symm ne_sa_b) (nin0))))
            have F12_slot_b := (Fld.keep LF_slot K12 (ninS (Ne.symm ne_ha_b) (ninS (Ne.symm ne_sa_b) (nin0))))
            have F12_count_b := (Fld.keep LF_count K12 (ninS (Ne.symm ne_ha_b) (ninS (Ne.symm ne_sa_b) (nin0))))
            have X12_b := (Exa.keep LE K12)
            have V12_ka := (LVA.keep K12 (ninS (Ne.symm ne_ha_ka) (ninS (Ne.symm ne_sa_ka) (nin0))))
            have P12 := (LP.trans K12 (allS (Or.inl (List.mem_of_getElem? (i := 0) rfl)) (allS (Or.inl (List.mem_of_getElem? (i := 1) rfl)) (all0))))
            show Go _ _ _ _ _ _ _ _ _ _ _ h12 0 0 (mkF m 112 #[.val (.ref b), .val (.int (Int32.ofNat j)), .val (.int (Int32.ofNat ch)), .val (.int (Int32.ofNat (kidB Al n H' j)))] []) _
            refine retV K rfl d_prog_2_method_9_112 (Nat.le_of_ble_eq_true rfl) (Nat.le_of_ble_eq_true rfl) ?_
            rw [e]
            exact ⟨rfl, P12, Q12_VH, Q12_VS⟩
          · refine ifY K d_prog_2_method_9_84 (dd_g_gt_t c2) (pc' := 90) (by decide) (by decide) ?_
            refine Jvm.OwnWp.aloadN K d_prog_2_method_9_90 rfl rfl (pc' := 91) rfl ?_
            refine Jvm.OwnWp.aloadN K d_prog_2_method_9_91 rfl rfl (pc' := 92) rfl ?_
            refine Jvm.OwnWp.getf K (wd27 hw) Via.refl LF_heap d_prog_2_method_9_92 (pc' := 95) rfl ?_
            refine Jvm.OwnWp.iloadN K d_prog_2_method_9_95 rfl (pc' := 96) rfl ?_
            refine iaload K (i := (kidB Al n H' j)) LVH (o_int (by omega)) (mapAt (getDAt (d := 0) (by omega))) d_prog_2_method_9_96 (pc' := 97) rfl ?_
            refine Jvm.OwnWp.iloadN K d_prog_2_method_9_97 rfl (pc' := 98) rfl ?_
            refine callPriv K (y := (⟨"com/example/sightline/sightline/checker/ByActivity", "place", "(II)V"⟩ : MethodName)) (b := b) (argsL := [(.int (Int32.ofNat (H'.getD (kidB Al n H' j) 0))), (.int (Int32.ofNat j))]) (S := []) (wd43 hw) (wd44 hw) (wd45 hw) (wd1 hw) (wd2 hw) (wd46 hw) (by decide) LE (c_place l Z a0 hw [] b ha sa (H'.getD (kidB Al n H' j) 0) j H' S' hh n0 (Nat.le_trans Z0 LP.1) (by omega) (by omega) (by omega) (by omega) LF_heap LF_slot LVH LVS ne_sa_ha ne_ha_b ne_sa_b ge_ha ge_sa) (lenOf pd0 rfl) d_prog_2_method_9_98 rfl (Nat.le_of_ble_eq_true rfl) (Nat.le_of_ble_eq_true rfl) (Nat.le_of_ble_eq_true rfl) (Nat.le_of_ble_eq_true rfl) rfl (pc' := 101) rfl ?_
            rintro v13 h13 ⟨rfl, K13, Q13_VH, Q13_VS⟩
            have F13_activity_b := (Fld.keep LF_act K13 (ninS (Ne.symm ne_ha_b) (ninS (Ne.symm ne_sa_b) (nin0))))
            have F13_heap_b := (Fld.keep LF_heap K13 (ninS (Ne.symm ne_ha_b) (ninS (Ne.symm ne_sa_b) (nin0))))
            have F13_slot_b := (Fld.keep LF_slot K13 (ninS (Ne.symm ne_ha_b) (ninS (Ne.symm ne_sa_b) (nin0))))
            have F13_count_b := (Fld.keep LF_count K13 (ninS (Ne.symm ne_ha_b) (ninS (Ne.symm ne_sa_b) (nin0))))
            have X13_b := (Exa.keep LE K13)
            have V13_ka := (LVA.keep K13 (ninS (Ne.symm ne_ha_ka) (ninS (Ne.symm ne_sa_ka) (nin0))))
            have P13 := (LP.trans K13 (allS (Or.inl (List.mem_of_getElem? (i := 0) rfl)) (allS (Or.inl (List.mem_of_getElem? (i := 1) rfl)) (all0))))
            show Go _ _ _ _ _ _ _ _ _ _ _ h13 0 0 (mkF m 101 #[.val (.ref b), .val (.int (Int32.ofNat j)), .val (.int (Int32.ofNat ch)), .val (.int (Int32.ofNat (kidB Al n H' j)))] []) _
            refine Jvm.OwnWp.iloadN K d_prog_2_method_9_101 rfl (pc' := 102) rfl ?_
            refine Jvm.OwnWp.istoreN K d_prog_2_method_9_102 (Ls' := #[.val (.ref b), .val (.int (Int32.ofNat (kidB Al n H' j))), .val (.int (Int32.ofNat ch)), .val (.int (Int32.ofNat (kidB Al n H' j)))]) rfl (pc' := 103) rfl ?_
            refine goto' K d_prog_2_method_9_103 (pc' := 7) (by decide) (by decide) ?_
            exact ih _ _ _ _ _ (by omega) (One.val rfl) hkN (by rw [List.length_set]; exact hH') (by rw [List.length_set]; exact hS') (hB'.set j hk2) ((downB_go j1 c2).symm.trans hup) P13 X13_b F13_activity_b F13_heap_b F13_slot_b V13_ka Q13_VH Q13_VS F13_count_b
        by_cases c3 : (Int32.ofNat (2 * j + 2)) < (Int32.ofNat n)
        · refine icN K d_prog_2_method_9_32 (XT.ii_ge_f c3) (pc' := 35) rfl ?_
          have j2 := (o_lt (by omega : 2 * j + 2 < 1000) (by omega : n < 1000)).mp c3
          have hq1 := hB' (2 * j + 1)
          have hq2 := hB' (2 * j + 2)
          refine Jvm.OwnWp.aloadN K d_prog_2_method_9_35 rfl rfl (pc' := 36) rfl ?_
          refine Jvm.OwnWp.getf K (wd24 hw) Via.refl LF_act d_prog_2_method_9_36 (pc' := 39) rfl ?_
          refine Jvm.OwnWp.aloadN K d_prog_2_method_9_39 rfl rfl (pc' := 40) rfl ?_
          refine Jvm.OwnWp.getf K (wd27 hw) Via.refl LF_heap d_prog_2_method_9_40 (pc' := 43) rfl ?_
          refine Jvm.OwnWp.iloadN K d_prog_2_method_9_43 rfl (pc' := 44) rfl ?_
          refine Jvm.OwnWp.iconst K (1 : Int32) d_prog_2_method_9_44 (by decide) (pc' := 45) rfl ?_
          refine Jvm.OwnWp.iadd K d_prog_2_method_9_45 (pc' := 46) rfl ?_
          rw [show (Int32.ofNat (2 * j + 1)) + (1 : Int32) = Int32.ofNat (2 * j + 2) from o_add1 (n := 2 * j + 1) (by omega)]
          refine iaload K (i := (2 * j + 2)) LVH (o_int (by omega)) (mapAt (getDAt (d := 0) (by omega))) d_prog_2_method_9_46 (pc' := 47) rfl ?_
          refine daload K (i := (H'.getD (2 * j + 2) 0)) LVA (o_int (by omega)) (mapAt (getDAt (d := 0) (by omega))) d_prog_2_method_9_47 (pc' := 48) rfl ?_
          refine Jvm.OwnWp.aloadN K d_prog_2_method_9_48 rfl rfl (pc' := 49) rfl ?_
          refine Jvm.OwnWp.getf K (wd24 hw) Via.refl LF_act d_prog_2_method_9_49 (pc' := 52) rfl ?_
          refine Jvm.OwnWp.aloadN K d_prog_2_method_9_52 rfl rfl (pc' := 53) rfl ?_
          refine Jvm.OwnWp.getf K (wd27 hw) Via.refl LF_heap d_prog_2_method_9_53 (pc' := 56) rfl ?_
          refine Jvm.OwnWp.iloadN K d_prog_2_method_9_56 rfl (pc' := 57) rfl ?_
          refine iaload K (i := (2 * j + 1)) LVH (o_int (by omega)) (mapAt (getDAt (d := 0) (by omega))) d_prog_2_method_9_57 (pc' := 58) rfl ?_
          refine daload K (i := (H'.getD (2 * j + 1) 0)) LVA (o_int (by omega)) (mapAt (getDAt (d := 0) (by omega))) d_prog_2_method_9_58 (pc' := 59) rfl ?_
          refine Jvm.OwnWp.dcmp K d_prog_2_method_9_59 (pc' := 60) rfl ?_
          by_cases c4 : FP.dcmp (Al.getD (H'.getD (2 * j + 2) 0) 0) (Al.getD (H'.getD (2 * j + 1) 0) 0) = some .gt
          · refine ifN K d_prog_2_method_9_60 (dd_l_le_f c4) (pc' := 63) rfl ?_
            refine Jvm.OwnWp.iinc K (1 : Int32) d_prog_2_method_9_63 (by decide) rfl (Ls' := #[.val (.ref b), .val (.int (Int32.ofNat j)), .val (.int (Int32.ofNat ch)), .val (.int ((Int32.ofNat (2 * j + 1)) + (1 : Int32)))]) rfl (pc' := 66) rfl ?_
            rw [show (Int32.ofNat (2 * j + 1)) + (1 : Int32) = Int32.ofNat (2 * j + 2) from o_add1 (n := 2 * j + 1) (by omega)]
            rw [show kidB Al n H' j = 2 * j + 2 by unfold kidB; rw [if_pos ⟨j2, c4⟩]] at join
            exact join
          · refine ifY K d_prog_2_method_9_60 (dd_l_le_t c4) (pc' := 66) (by decide) (by decide) ?_
            rw [show kidB Al n H' j = 2 * j + 1 by unfold kidB; rw [if_neg (fun q => c4 q.2)]] at join
            exact join
        · refine icY K d_prog_2_method_9_32 (XT.ii_ge_t c3) (pc' := 66) (by decide) (by decide) ?_
          rw [show kidB Al n H' j = 2 * j + 1 by unfold kidB; rw [if_neg (fun q => c3 ((o_lt (by omega) (by omega)).mpr q.1))]] at join
          exact join
      · refine icY K d_prog_2_method_9_16 (XT.ii_ge_t c1) (pc' := 106) (by decide) (by decide) ?_
        have e := hup.symm.trans (downB_end (fun q => c1 ((o_lt (by omega) (by omega)).mpr q)))
        refine Jvm.OwnWp.aloadN K d_prog_2_method_9_106 rfl rfl (pc' := 107) rfl ?_
        refine Jvm.OwnWp.iloadN K d_prog_2_method_9_107 rfl (pc' := 108) rfl ?_
        refine Jvm.OwnWp.iloadN K d_prog_2_method_9_108 rfl (pc' := 109) rfl ?_
        refine callPriv K (y := (⟨"com/example/sightline/sightline/checker/ByActivity", "place", "(II)V"⟩ : MethodName)) (b := b) (argsL := [(.int (Int32.ofNat ch)), (.int (Int32.ofNat j))]) (S := []) (wd43 hw) (wd44 hw) (wd45 hw) (wd1 hw) (wd2 hw) (wd46 hw) (by decide) LE (c_place l Z a0 hw [] b ha sa ch j H' S' hh n0 (Nat.le_trans Z0 LP.1) (by omega) (by omega) (by omega) (by omega) LF_heap LF_slot LVH LVS ne_sa_ha ne_ha_b ne_sa_b ge_ha ge_sa) (lenOf pd0 rfl) d_prog_2_method_9_109 rfl (Nat.le_of_ble_eq_true rfl) (Nat.le_of_ble_eq_true rfl) (Nat.le_of_ble_eq_true rfl) (Nat.le_of_ble_eq_true rfl) rfl (pc' := 112) rfl ?_
        rintro v14 h14 ⟨rfl, K14, Q14_VH, Q14_VS⟩
        have F14_activity_b := (Fld.keep LF_act K14 (ninS (Ne.symm ne_ha_b) (ninS (Ne.symm ne_sa_b) (nin0))))
        have F14_heap_b := (Fld.keep LF_heap K14 (ninS (Ne.symm ne_ha_b) (ninS (Ne.symm ne_sa_b) (nin0))))
        have F14_slot_b := (Fld.keep LF_slot K14 (ninS (Ne.symm ne_ha_b) (ninS (Ne.symm ne_sa_b) (nin0))))
        have F14_count_b := (Fld.keep LF_count K14 (ninS (Ne.symm ne_ha_b) (ninS (Ne.symm ne_sa_b) (nin0))))
        have X14_b := (Exa.keep LE K14)
        have V14_ka := (LVA.keep K14 (ninS (Ne.symm ne_ha_ka) (ninS (Ne.symm ne_sa_ka) (nin0))))
        have P14 := (LP.trans K14 (allS (Or.inl (List.mem_of_getElem? (i := 0) rfl)) (allS (Or.inl (List.mem_of_getElem? (i := 1) rfl)) (all0))))
        show Go _ _ _ _ _ _ _ _ _ _ _ h14 0 0 (mkF m 112 #[.val (.ref b), .val (.int (Int32.ofNat j)), .val (.int (Int32.ofNat ch)), o3] []) _
        refine retV K rfl d_prog_2_method_9_112 (Nat.le_of_ble_eq_true rfl) (Nat.le_of_ble_eq_true rfl) ?_
        rw [e]
        exact ⟨rfl, P14, Q14_VH, Q14_VS⟩
  exact loop _ i .unset Hl Sl _ (Nat.le_refl _) One.u hiN hH hS hB rfl P0 E F_act F_heap F_slot VA VH VS F_count
set_option maxRecDepth 65536 in
set_option maxHeartbeats 40000000 in
theorem c_pop (l : Launch) (Z : State) (a0 : Array Value) (hw : ∀ d ∈ tables_1, d.before a0 Z = true) (ws : List Jvm.Cond) (b ka ha sa : Addr) (N n : Nat) (g : UInt64) (Al : List UInt64) (Hl : List Nat) (Sl : List Int32) (h0 : Heap) (n0 : Nat) (Z0 : n0 ≤ h0.size) (hA : Al.length = N) (hH : Hl.length = N) (hS : Sl.length = N) (N0 : 0 < N) (N9 : N < 100) (hB : Bd N Hl) (n0' : 0 < n) (hnN : n ≤ N) (E : Exa Z h0 b "com/example/sightline/sightline/checker/ByActivity") (F_act : Fld Z h0 b "com/example/sightline/sightline/checker/ByActivity" "activity" "[D" (.ref ka)) (F_heap : Fld Z h0 b "com/example/sightline/sightline/checker/ByActivity" "heap" "[I" (.ref ha)) (F_slot : Fld Z h0 b "com/example/sightline/sightline/checker/ByActivity" "slot" "[I" (.ref sa)) (F_count : Fld Z h0 b "com/example/sightline/sightline/checker/ByActivity" "count" "I" (.int (Int32.ofNat n))) (F_gain : Fld Z h0 b "com/example/sightline/sightline/checker/ByActivity" "gain" "D" (.double g)) (F_choices : Fld Z h0 b "com/example/sightline/sightline/checker/ByActivity" "choices" "I" (.int (Int32.ofNat N))) (VA : DV Z h0 ka Al) (VH : HV Z h0 ha Hl) (VS : IV Z h0 sa Sl) (ne_ka_b : ka ≠ b) (ne_ha_b : ha ≠ b) (ne_sa_b : sa ≠ b) (ne_ha_ka : ha ≠ ka) (ne_sa_ka : sa ≠ ka) (ne_sa_ha : sa ≠ ha) (ge_b : n0 ≤ b) (ge_ka : n0 ≤ ka) (ge_ha : n0 ≤ ha) (ge_sa : n0 ≤ sa) :
    Ctr l Z (⟨"com/example/sightline/sightline/checker/ByActivity", "pop", "()I"⟩ : MethodName) prog_2_method_5_code 2 (some .int) ws ({ frames := 2, cells := 0, slots := 0, locals := 29 } : Room) n0 #[(.ref b)] h0 (fun v h => v = some (.int (Int32.ofNat (Hl.getD 0 0))) ∧ Keep h0 h [b, ha, sa] ∧ Exa Z h b "com/example/sightline/sightline/checker/ByActivity" ∧ Fld Z h b "com/example/sightline/sightline/checker/ByActivity" "activity" "[D" (.ref ka) ∧ Fld Z h b "com/example/sightline/sightline/checker/ByActivity" "heap" "[I" (.ref ha) ∧ Fld Z h b "com/example/sightline/sightline/checker/ByActivity" "slot" "[I" (.ref sa) ∧ Fld Z h b "com/example/sightline/sightline/checker/ByActivity" "count" "I" (.int (Int32.ofNat (n - 1))) ∧ Fld Z h b "com/example/sightline/sightline/checker/ByActivity" "gain" "D" (.double g) ∧ Fld Z h b "com/example/sightline/sightline/checker/ByActivity" "choices" "I" (.int (Int32.ofNat N)) ∧ DV Z h ka Al ∧ HV Z h ha (popB Al Hl Sl n).1 ∧ IV Z h sa (popB Al Hl Sl n).2) := by
  refine ctr (own := "com/example/sightline/sightline/checker/ByActivity") (nm := "pop") rfl rfl (Ls := #[.val (.ref b), .unset]) (plainFor_of_name pn0) (fun m => by first | (simp [entryFrame, mkF, argsToLocals, Value.category]; done) | rfl) ?_
  intro p e s m below meth c K eh
  have P0 := Keep.refl h0 [b, ha, sa]
  have ht := hB 0
  have hl := hB (n - 1)
  refine Jvm.OwnWp.aloadN K d_prog_2_method_5_0 rfl rfl (pc' := 1) rfl ?_
  refine Jvm.OwnWp.getf K (wd27 hw) Via.refl F_heap d_prog_2_method_5_1 (pc' := 4) rfl ?_
  refine Jvm.OwnWp.iconst K (0 : Int32) d_prog_2_method_5_4 (by decide) (pc' := 5) rfl ?_
  refine iaload K (i := 0) VH (by decide) (mapAt (getDAt (d := 0) (by omega))) d_prog_2_method_5_5 (pc' := 6) rfl ?_
  refine Jvm.OwnWp.istoreN K d_prog_2_method_5_6 (Ls' := #[.val (.ref b), .val (.int (Int32.ofNat (Hl.getD 0 0)))]) rfl (pc' := 7) rfl ?_
  refine Jvm.OwnWp.aloadN K d_prog_2_method_5_7 rfl rfl (pc' := 8) rfl ?_
  refine Jvm.OwnWp.getf K (wd29 hw) Via.refl F_slot d_prog_2_method_5_8 (pc' := 11) rfl ?_
  refine Jvm.OwnWp.iloadN K d_prog_2_method_5_11 rfl (pc' := 12) rfl ?_
  refine Jvm.OwnWp.iconst K (-1 : Int32) d_prog_2_method_5_12 (by decide) (pc' := 13) rfl ?_
  refine iastore K (i := (Hl.getD 0 0)) VS (o_int (by omega)) (mapLt (by omega)) ge_sa d_prog_2_method_5_13 (pc' := 14) rfl ?_
  intro h15 W15
  have F15_activity_b := (Fld.other W15 F_act (Or.inl (Ne.symm ne_sa_b)))
  have F15_heap_b := (Fld.other W15 F_heap (Or.inl (Ne.symm ne_sa_b)))
  have F15_slot_b := (Fld.other W15 F_slot (Or.inl (Ne.symm ne_sa_b)))
  have F15_count_b := (Fld.other W15 F_count (Or.inl (Ne.symm ne_sa_b)))
  have F15_gain_b := (Fld.other W15 F_gain (Or.inl (Ne.symm ne_sa_b)))
  have F15_choices_b := (Fld.other W15 F_choices (Or.inl (Ne.symm ne_sa_b)))
  have X15_b := (Exa.wr W15 E)
  have V15_ka := (VA.other W15 (Ne.symm ne_sa_ka))
  have V15_ha := (VH.other W15 (Ne.symm ne_sa_ha))
  have P15 := (P0.wr W15 (Or.inl (List.mem_of_getElem? (i := 2) rfl)))
  have V15_sa := VS.set W15
  refine Jvm.OwnWp.aloadN K d_prog_2_method_5_14 rfl rfl (pc' := 15) rfl ?_
  refine Jvm.OwnWp.dup K d_prog_2_method_5_15 rfl (pc' := 16) rfl ?_
  refine Jvm.OwnWp.getf K (wd41 hw) Via.refl F15_count_b d_prog_2_method_5_16 (pc' := 19) rfl ?_
  refine Jvm.OwnWp.iconst K (1 : Int32) d_prog_2_method_5_19 (by decide) (pc' := 20) rfl ?_
  refine Jvm.OwnWp.isub K d_prog_2_method_5_20 (pc' := 21) rfl ?_
  rw [show (Int32.ofNat n) - (1 : Int32) = Int32.ofNat (n - 1) from o_sub1 (by omega) (by omega)]
  refine putf K (wd41 hw) Via.refl F15_count_b X15_b (Or.inl (wd42 hw)) (wd1 hw) (ty := .int) (by decide) rfl rfl ge_b d_prog_2_method_5_21 (pc' := 24) rfl ?_
  intro h16 W16
  have F16_activity_b := (Fld.other W16 F15_activity_b (Or.inr (sn_ByActivity_activity_count hw)))
  have F16_heap_b := (Fld.other W16 F15_heap_b (Or.inr (sn_ByActivity_heap_count hw)))
  have F16_slot_b := (Fld.other W16 F15_slot_b (Or.inr (sn_ByActivity_slot_count hw)))
  have F16_gain_b := (Fld.other W16 F15_gain_b (Or.inr (sn_ByActivity_gain_count hw)))
  have F16_choices_b := (Fld.other W16 F15_choices_b (Or.inr (sn_ByActivity_choices_count hw)))
  have X16_b := (Exa.wr W16 X15_b)
  have V16_ka := (V15_ka.other W16 ne_ka_b)
  have V16_ha := (V15_ha.other W16 ne_ha_b)
  have V16_sa := (V15_sa.other W16 ne_sa_b)
  have P16 := (P15.wr W16 (Or.inl (List.mem_of_getElem? (i := 0) rfl)))
  have F16_count_b := Fld.same W16 F15_count_b
  refine Jvm.OwnWp.aloadN K d_prog_2_method_5_24 rfl rfl (pc' := 25) rfl ?_
  refine Jvm.OwnWp.getf K (wd41 hw) Via.refl F16_count_b d_prog_2_method_5_25 (pc' := 28) rfl ?_
  by_cases c1 : 0 < (Int32.ofNat (n - 1))
  · refine ifN K d_prog_2_method_5_28 (XT.i0_le_f c1) (pc' := 31) rfl ?_
    have n1 := (o_pos (by omega : n - 1 < 1000)).mp c1
    refine Jvm.OwnWp.aloadN K d_prog_2_method_5_31 rfl rfl (pc' := 32) rfl ?_
    refine Jvm.OwnWp.aloadN K d_prog_2_method_5_32 rfl rfl (pc' := 33) rfl ?_
    refine Jvm.OwnWp.getf K (wd27 hw) Via.refl F16_heap_b d_prog_2_method_5_33 (pc' := 36) rfl ?_
    refine Jvm.OwnWp.aloadN K d_prog_2_method_5_36 rfl rfl (pc' := 37) rfl ?_
    refine Jvm.OwnWp.getf K (wd41 hw) Via.refl F16_count_b d_prog_2_method_5_37 (pc' := 40) rfl ?_
    refine iaload K (i := (n - 1)) V16_ha (o_int (by omega)) (mapAt (getDAt (d := 0) (by omega))) d_prog_2_method_5_40 (pc' := 41) rfl ?_
    refine Jvm.OwnWp.iconst K (0 : Int32) d_prog_2_method_5_41 (by decide) (pc' := 42) rfl ?_
    show Go _ _ _ _ _ _ _ _ _ _ _ h16 0 0 (mkF m 42 #[.val (.ref b), .val (.int (Int32.ofNat (Hl.getD 0 0)))] [(.int (Int32.ofNat 0)), (.int (Int32.ofNat (Hl.getD (n - 1) 0))), (.ref b)]) _
    refine callPriv K (y := (⟨"com/example/sightline/sightline/checker/ByActivity", "place", "(II)V"⟩ : MethodName)) (b := b) (argsL := [(.int (Int32.ofNat (Hl.getD (n - 1) 0))), (.int (Int32.ofNat 0))]) (S := []) (wd43 hw) (wd44 hw) (wd45 hw) (wd1 hw) (wd2 hw) (wd46 hw) (by decide) X16_b (c_place l Z a0 hw [] b ha sa (Hl.getD (n - 1) 0) 0 Hl (Sl.set (Hl.getD 0 0) (-1)) h16 n0 (Nat.le_trans Z0 P16.1) (by omega) (by rw [List.length_set]; omega) (by omega) (by omega) F16_heap_b F16_slot_b V16_ha V16_sa ne_sa_ha ne_ha_b ne_sa_b ge_ha ge_sa) (lenOf pd0 rfl) d_prog_2_method_5_42 rfl (Nat.le_of_ble_eq_true rfl) (Nat.le_of_ble_eq_true rfl) (Nat.le_of_ble_eq_true rfl) (Nat.le_of_ble_eq_true rfl) rfl (pc' := 45) rfl ?_
    rintro v17 h17 ⟨rfl, K17, Q17_VH, Q17_VS⟩
    have F17_activity_b := (Fld.keep F16_activity_b K17 (ninS (Ne.symm ne_ha_b) (ninS (Ne.symm ne_sa_b) (nin0))))
    have F17_heap_b := (Fld.keep F16_heap_b K17 (ninS (Ne.symm ne_ha_b) (ninS (Ne.symm ne_sa_b) (nin0))))
    have F17_slot_b := (Fld.keep F16_slot_b K17 (ninS (Ne.symm ne_ha_b) (ninS (Ne.symm ne_sa_b) (nin0))))
    have F17_count_b := (Fld.keep F16_count_b K17 (ninS (Ne.symm ne_ha_b) (ninS (Ne.symm ne_sa_b) (nin0))))
    have F17_gain_b := (Fld.keep F16_gain_b K17 (ninS (Ne.symm ne_ha_b) (ninS (Ne.symm ne_sa_b) (nin0))))
    have F17_choices_b := (Fld.keep F16_choices_b K17 (ninS (Ne.symm ne_ha_b) (ninS (Ne.symm ne_sa_b) (nin0))))
    have X17_b := (Exa.keep X16_b K17)
    have V17_ka := (V16_ka.keep K17 (ninS (Ne.symm ne_ha_ka) (ninS (Ne.symm ne_sa_ka) (nin0))))
    have P17 := (P16.trans K17 (allS (Or.inl (List.mem_of_getElem? (i := 1) rfl)) (allS (Or.inl (List.mem_of_getElem? (i := 2) rfl)) (all0))))
    show Go _ _ _ _ _ _ _ _ _ _ _ h17 0 0 (mkF m 45 #[.val (.ref b), .val (.int (Int32.ofNat (Hl.getD 0 0)))] []) _
    refine Jvm.OwnWp.aloadN K d_prog_2_method_5_45 rfl rfl (pc' := 46) rfl ?_
    refine Jvm.OwnWp.iconst K (0 : Int32) d_prog_2_method_5_46 (by decide) (pc' := 47) rfl ?_
    show Go _ _ _ _ _ _ _ _ _ _ _ h17 0 0 (mkF m 47 #[.val (.ref b), .val (.int (Int32.ofNat (Hl.getD 0 0)))] [(.int (Int32.ofNat 0)), (.ref b)]) _
    refine callPriv K (y := (⟨"com/example/sightline/sightline/checker/ByActivity", "down", "(I)V"⟩ : MethodName)) (b := b) (argsL := [(.int (Int32.ofNat 0))]) (S := []) (wd67 hw) (wd68 hw) (wd69 hw) (wd1 hw) (wd2 hw) (wd70 hw) (by decide) X17_b (c_down l Z a0 hw [] b ka ha sa N (n - 1) 0 Al (Hl.set 0 (Hl.getD (n - 1) 0)) ((Sl.set (Hl.getD 0 0) (-1)).set (Hl.getD (n - 1) 0) (Int32.ofNat 0)) h17 n0 (Nat.le_trans Z0 P17.1) hA (by rw [List.length_set]; exact hH) (by rw [List.length_set, List.length_set]; exact hS) N0 N9 (hB.set 0 hl) N0 (by omega) X17_b F17_activity_b F17_heap_b F17_slot_b V17_ka Q17_VH Q17_VS F17_count_b ne_sa_ha ne_ha_ka ne_sa_ka ne_ha_b ne_sa_b ge_ha ge_sa) (lenOf pd1 rfl) d_prog_2_method_5_47 rfl (Nat.le_of_ble_eq_true rfl) (Nat.le_of_ble_eq_true rfl) (Nat.le_of_ble_eq_true rfl) (Nat.le_of_ble_eq_true rfl) rfl (pc' := 50) rfl ?_
    rintro v18 h18 ⟨rfl, K18, Q18_VH, Q18_VS⟩
    have F18_activity_b := (Fld.keep F17_activity_b K18 (ninS (Ne.symm ne_ha_b) (ninS (Ne.symm ne_sa_b) (nin0))))
    have F18_heap_b := (Fld.keep F17_heap_b K18 (ninS (Ne.symm ne_ha_b) (ninS (Ne.symm ne_sa_b) (nin0))))
    have F18_slot_b := (Fld.keep F17_slot_b K18 (ninS (Ne.symm ne_ha_b) (ninS (Ne.symm ne_sa_b) (nin0))))
    have F18_count_b := (Fld.keep F17_count_b K18 (ninS (Ne.symm ne_ha_b) (ninS (Ne.symm ne_sa_b) (nin0))))
    have F18_gain_b := (Fld.keep F17_gain_b K18 (ninS (Ne.symm ne_ha_b) (ninS (Ne.symm ne_sa_b) (nin0))))
    have F18_choices_b := (Fld.keep F17_choices_b K18 (ninS (Ne.symm ne_ha_b) (ninS (Ne.symm ne_sa_b) (nin0))))
    have X18_b := (Exa.keep X17_b K18)
    have V18_ka := (V17_ka.keep K18 (ninS (Ne.symm ne_ha_ka) (ninS (Ne.symm ne_sa_ka) (nin0))))
    have P18 := (P17.trans K18 (allS (Or.inl (List.mem_of_getElem? (i := 1) rfl)) (allS (Or.inl (List.mem_of_getElem? (i := 2) rfl)) (all0))))
    show Go _ _ _ _ _ _ _ _ _ _ _ h18 0 0 (mkF m 50 #[.val (.ref b), .val (.int (Int32.ofNat (Hl.getD 0 0)))] []) _
    have er : downB Al (n - 1) ((Hl.set 0 (Hl.getD (n - 1) 0)).getD 0 0) (Hl.set 0 (Hl.getD (n - 1) 0)) ((Sl.set (Hl.getD 0 0) (-1)).set (Hl.getD (n - 1) 0) (Int32.ofNat 0)) 0 = popB Al Hl Sl n := by
      unfold popB; rw [if_pos n1]; congr 1; rw [List.getD_eq_getElem?_getD, List.getElem?_set, if_pos rfl, if_pos (by omega)]; rfl
    rw [er] at Q18_VH Q18_VS
    refine Jvm.OwnWp.iloadN K d_prog_2_method_5_50 rfl (pc' := 51) rfl ?_
    refine retI K rfl d_prog_2_method_5_51 (Nat.le_of_ble_eq_true rfl) (Nat.le_of_ble_eq_true rfl) ?_
    exact ⟨rfl, P18, X18_b, F18_activity_b, F18_heap_b, F18_slot_b, F18_count_b, F18_gain_b, F18_choices_b, V18_ka, Q18_VH, Q18_VS⟩
  · refine ifY K d_prog_2_method_5_28 (XT.i0_le_t c1) (pc' := 50) (by decide) (by decide) ?_
    refine Jvm.OwnWp.iloadN K d_prog_2_method_5_50 rfl (pc' := 51) rfl ?_
    have er : popB Al Hl Sl n = (Hl, Sl.set (Hl.getD 0 0) (-1)) := by unfold popB; rw [if_neg (fun q => c1 ((o_pos (by omega)).mpr q))]
    refine retI K rfl d_prog_2_method_5_51 (Nat.le_of_ble_eq_true rfl) (Nat.le_of_ble_eq_true rfl) ?_
    rw [er]
    exact ⟨rfl, P16, X16_b, F16_activity_b, F16_heap_b, F16_slot_b, F16_count_b, F16_gain_b, F16_choices_b, V16_ka, V16_ha, V16_sa⟩
theorem fill_step {xs : List Int32} {x : Int32} {j : Nat} (h : j < xs.length) : (List.replicate j x ++ xs.drop j).set j x = List.replicate (j + 1) x ++ xs.drop (j + 1) := by
  rw [List.set_append_right _ _ (by simp), List.length_replicate, Nat.sub_self, List.drop_eq_getElem_cons h, List.set_cons_zero, List.replicate_succ', List.append_assoc]; rfl
set_option maxRecDepth 65536 in
set_option maxHeartbeats 40000000 in
theorem c_fill (l : Launch) (Z : State) (a0 : Array Value) (hw : ∀ d ∈ tables_1, d.before a0 Z = true) (ws : List Jvm.Cond) (a : Addr) (x : Int32) (N : Nat) (xs : List Int32) (h0 : Heap) (n0 : Nat) (Z0 : n0 ≤ h0.size) (hl : xs.length = N) (N9 : N < 100) (V : IV Z h0 a xs) (ge_a : n0 ≤ a) :
    Ctr l Z (⟨"java/util/Arrays", "fill", "([II)V"⟩ : MethodName) jdk_65_method_103_code 4 none ws ({ frames := 0, cells := 0, slots := 0, locals := 0 } : Room) n0 #[(.ref a), (.int x)] h0 (fun v h => v = none ∧ Keep h0 h [a] ∧ IV Z h a (List.replicate N x)) := by
  refine ctr (own := "java/util/Arrays") (nm := "fill") rfl rfl (Ls := #[.val (.ref a), .val (.int x), .unset, .unset]) (plainFor_of_name pn1) (fun m => by first | (simp [entryFrame, mkF, argsToLocals, Value.category]; done) | rfl) ?_
  intro p e s m below meth c K eh
  have P0 := Keep.refl h0 [a]
  refine Jvm.OwnWp.iconst K (0 : Int32) d_jdk_65_method_103_0 (by decide) (pc' := 1) rfl ?_
  refine Jvm.OwnWp.istoreN K d_jdk_65_method_103_1 (Ls' := #[.val (.ref a), .val (.int x), .val (.int (0 : Int32)), .unset]) rfl (pc' := 2) rfl ?_
  refine Jvm.OwnWp.aloadN K d_jdk_65_method_103_2 rfl rfl (pc' := 3) rfl ?_
  refine alen K V d_jdk_65_method_103_3 (pc' := 4) rfl ?_
  rw [show (xs.map Value.int).length.toInt32 = Int32.ofNat N from by rw [List.length_map, hl]]
  refine Jvm.OwnWp.istoreN K d_jdk_65_method_103_4 (Ls' := #[.val (.ref a), .val (.int x), .val (.int (0 : Int32)), .val (.int (Int32.ofNat N))]) rfl (pc' := 5) rfl ?_
  show Go _ _ _ _ _ _ _ _ _ _ _ h0 0 0 (mkF m 5 #[.val (.ref a), .val (.int x), .val (.int (Int32.ofNat 0)), .val (.int (Int32.ofNat N))] []) _
  have loop : ∀ (f j : Nat) (hh : Heap), N - j ≤ f → j ≤ N → Keep h0 hh [a] → IV Z hh a (List.replicate j x ++ xs.drop j) → Go p l e ({ frames := 0, cells := 0, slots := 0, locals := 0 } : Room) s m #[(.ref a), (.int x)] below meth c n0 hh 0 0 (mkF m 5 #[.val (.ref a), .val (.int x), .val (.int (Int32.ofNat j)), .val (.int (Int32.ofNat N))] []) (fun v h => v = none ∧ Keep h0 h [a] ∧ IV Z h a (List.replicate N x)) := by
    intro f
    induction f with
    | zero =>
      intro j hh hf hj LP LV
      refine Jvm.OwnWp.iloadN K d_jdk_65_method_103_5 rfl (pc' := 6) rfl ?_
      refine Jvm.OwnWp.iloadN K d_jdk_65_method_103_6 rfl (pc' := 7) rfl ?_
      refine icY K d_jdk_65_method_103_7 (XT.ii_ge_t (fun q => absurd ((o_lt (by omega) (by omega)).mp q) (by omega))) (pc' := 20) (by decide) (by decide) ?_
      refine retV K rfl d_jdk_65_method_103_20 (Nat.le_of_ble_eq_true rfl) (Nat.le_of_ble_eq_true rfl) ?_
      have ej : j = N := by omega
      subst ej
      rw [List.drop_eq_nil_of_le (by omega), List.append_nil] at LV
      exact ⟨rfl, LP, LV⟩
    | succ f ih =>
      intro j hh hf hj LP LV
      refine Jvm.OwnWp.iloadN K d_jdk_65_method_103_5 rfl (pc' := 6) rfl ?_
      refine Jvm.OwnWp.iloadN K d_jdk_65_method_103_6 rfl (pc' := 7) rfl ?_
      by_cases c1 : (Int32.ofNat j) < (Int32.ofNat N)
      · refine icN K d_jdk_65_method_103_7 (XT.ii_ge_f c1) (pc' := 10) rfl ?_
        have hj2 := (o_lt (by omega : j < 1000) (by omega : N < 1000)).mp c1
        refine Jvm.OwnWp.aloadN K d_jdk_65_method_103_10 rfl rfl (pc' := 11) rfl ?_
        refine Jvm.OwnWp.iloadN K d_jdk_65_method_103_11 rfl (pc' := 12) rfl ?_
        refine Jvm.OwnWp.iloadN K d_jdk_65_method_103_12 rfl (pc' := 13) rfl ?_
        refine iastore K (i := j) LV (o_int (by omega)) (mapLt (by simp; omega)) ge_a d_jdk_65_method_103_13 (pc' := 14) rfl ?_
        intro h19 W19
        have P19 := (LP.wr W19 (Or.inl (List.mem_of_getElem? (i := 0) rfl)))
        have V19_a := LV.set W19
        refine Jvm.OwnWp.iinc K (1 : Int32) d_jdk_65_method_103_14 (by decide) rfl (Ls' := #[.val (.ref a), .val (.int x), .val (.int ((Int32.ofNat j) + (1 : Int32))), .val (.int (Int32.ofNat N))]) rfl (pc' := 17) rfl ?_
        rw [show (Int32.ofNat j) + (1 : Int32) = Int32.ofNat (j + 1) from o_add1 (by omega)]
        refine goto' K d_jdk_65_method_103_17 (pc' := 5) (by decide) (by decide) ?_
        exact ih _ _ (by omega) (by omega) P19 (by
          have e : (List.replicate j x ++ xs.drop j).set j x = List.replicate (j + 1) x ++ xs.drop (j + 1) := fill_step (by omega)
          rw [e] at V19_a; exact V19_a)
      · refine icY K d_jdk_65_method_103_7 (XT.ii_ge_t c1) (pc' := 20) (by decide) (by decide) ?_
        have hj2 : ¬ j < N := fun q => c1 ((o_lt (by omega) (by omega)).mpr q)
        refine retV K rfl d_jdk_65_method_103_20 (Nat.le_of_ble_eq_true rfl) (Nat.le_of_ble_eq_true rfl) ?_
        have ej : j = N := by omega
        subst ej
        rw [List.drop_eq_nil_of_le (by omega), List.append_nil] at LV
        exact ⟨rfl, LP, LV⟩
  exact loop _ 0 _ (Nat.le_refl _) (Nat.zero_le _) P0 (by simpa using V)
/-! the sifts keep the heap's order and each choice's place -/
section OrderB
open Jvm.OwnHeap
theorem o_inj {a b : Nat} (ha : a < 1000) (hb : b < 1000) (h : Int32.ofNat a = Int32.ofNat b) : a = b := by
  have := congrArg Int32.toInt h; rw [o_int ha, o_int hb] at this; omega
def κa (A : List UInt64) (x : Nat) : Int := kv (A.getD x 0)
def Nums (A : List UInt64) : Prop := ∀ j, Num (A.getD j 0)
def PS (n : Nat) (H : List Nat) (S : List Int32) : Prop := ∀ i, i < n → S.getD (H.getD i 0) 0 = Int32.ofNat i
def ABS (N n : Nat) (H : List Nat) (S : List Int32) : Prop := ∀ c, c < N → (∀ i, i < n → H.getD i 0 ≠ c) → S.getD c 0 = -1
def WF (N n : Nat) (H : List Nat) (S : List Int32) : Prop := H.length = N ∧ S.length = N ∧ n ≤ N ∧ Bd N H ∧ PS n H S ∧ ABS N n H S
def Ord' (A : List UInt64) (n : Nat) (H : List Nat) : Prop := ∀ i, 0 < i → i < n → κa A (H.getD i 0) ≤ κa A (H.getD ((i - 1) / 2) 0)
theorem PS.inj {n : Nat} {H : List Nat} {S : List Int32} (h : PS n H S) (hn : n < 1000) {i j : Nat} (hi : i < n) (hj : j < n) (e : H.getD i 0 = H.getD j 0) : i = j := by
  have h1 := h i hi; have h2 := h j hj
  rw [e, h2] at h1
  exact (o_inj (by omega) (by omega) h1).symm
theorem setSame {α : Type} {l : List α} {i : Nat} {d x : α} (h : i < l.length) (e : l.getD i d = x) : l.set i x = l := by
  rw [← e, gi l i d h]; exact List.set_getElem_self h
/-- one swap of the hole with the place q: the places stay right -/
theorem swapWF {N n i q c : Nat} {H : List Nat} {S : List Int32} (N9 : N < 100) (hi : i < n) (hq : q < n) (ne : q ≠ i) (hH : H.length = N) (hS : S.length = N) (hn : n ≤ N) (hB : Bd N H) (hc : c < N) (hPS : PS n (H.set i c) (S.set c (Int32.ofNat i))) (hAB : ABS N n (H.set i c) (S.set c (Int32.ofNat i))) :
    PS n ((H.set i (H.getD q 0)).set q c) ((S.set (H.getD q 0) (Int32.ofNat i)).set c (Int32.ofNat q)) ∧ ABS N n ((H.set i (H.getD q 0)).set q c) ((S.set (H.getD q 0) (Int32.ofNat i)).set c (Int32.ofNat q)) ∧ H.getD q 0 ≠ c := by
  have gI := gs (l := H) (i := i) (by omega) c 0
  have gS := gs (l := S) (i := c) (by omega) (Int32.ofNat i) 0
  have gI1 := gs (l := H) (i := i) (by omega) (H.getD q 0) 0
  have gI2 := gs (l := H.set i (H.getD q 0)) (i := q) (by rw [List.length_set]; omega) c 0
  have gS1 := gs (l := S) (i := H.getD q 0) (by have := hB q; omega) (Int32.ofNat i) 0
  have gS2 := gs (l := S.set (H.getD q 0) (Int32.ofNat i)) (i := c) (by rw [List.length_set]; omega) (Int32.ofNat q) 0
  simp only [gI1] at gI2
  simp only [gS1] at gS2
  have hqc : H.getD q 0 ≠ c := fun e => by
    have := hPS.inj (by omega) hq hi (by rw [gI, gI, if_neg ne, if_pos rfl]; exact e)
    exact ne this
  have hk : ∀ k, k < n → k ≠ i → k ≠ q → H.getD k 0 ≠ c ∧ H.getD k 0 ≠ H.getD q 0 := fun k hk k1 k2 =>
    ⟨fun e => k1 (hPS.inj (by omega) hk hi (by rw [gI, gI, if_neg k1, if_pos rfl]; exact e)), fun e => k2 (hPS.inj (by omega) hk hq (by rw [gI, gI, if_neg k1, if_neg ne]; exact e))⟩
  refine ⟨fun k hkn => ?_, fun c' hc' hno => ?_, hqc⟩
  · rw [gI2, gS2]
    by_cases e1 : k = q
    · rw [if_pos e1, if_pos rfl, e1]
    · rw [if_neg e1]
      by_cases e2 : k = i
      · rw [if_pos e2, if_neg hqc, if_pos rfl, e2]
      · rw [if_neg e2, if_neg (hk k hkn e2 e1).1, if_neg (hk k hkn e2 e1).2]
        have := hPS k hkn
        rw [gI, if_neg e2, gS, if_neg (hk k hkn e2 e1).1] at this
        exact this
  · have n1 : c' ≠ c := fun e => hno q hq (by rw [gI2, if_pos rfl]; exact e.symm)
    have n2 : c' ≠ H.getD q 0 := fun e => hno i hi (by rw [gI2, if_neg (fun z => ne z.symm), if_pos rfl]; exact e.symm)
    rw [gS2, if_neg n1, if_neg n2]
    have := hAB c' hc' (fun k hkn e => by
      rw [gI] at e
      by_cases e2 : k = i
      · rw [if_pos e2] at e; exact n1 e.symm
      · rw [if_neg e2] at e
        by_cases e1 : k = q
        · rw [e1] at e; exact n2 e.symm
        · exact hno k hkn (by rw [gI2, if_neg e1, if_neg e2]; exact e))
    rw [gS, if_neg n1] at this
    exact this
theorem upB_spec {A : List UInt64} {N n c : Nat} (N9 : N < 100) (hA : Nums A) (hn : n ≤ N) (hc : c < N) : ∀ (i : Nat) (H : List Nat) (S : List Int32), i < n → H.length = N → S.length = N → Bd N H → PS n (H.set i c) (S.set c (Int32.ofNat i)) → ABS N n (H.set i c) (S.set c (Int32.ofNat i)) →
    (∀ k, 0 < k → k < n → k ≠ i → κa A ((H.set i c).getD k 0) ≤ κa A ((H.set i c).getD ((k - 1) / 2) 0)) →
    (0 < i → ∀ k, k < n → 0 < k → (k - 1) / 2 = i → κa A ((H.set i c).getD k 0) ≤ κa A ((H.set i c).getD ((i - 1) / 2) 0)) →
    WF N n (upB A c H S i).1 (upB A c H S i).2 ∧ Ord' A n (upB A c H S i).1 ∧ ((upB A c H S i).1.take n).Perm ((H.set i c).take n) := by
  intro i
  induction i using Nat.strongRecOn with
  | _ i ih =>
    intro H S hi hH hS hB hPS hAB H2 H3
    have gI := gs (l := H) (i := i) (by omega) c 0
    have fin : (∀ k, 0 < k → k < n → κa A ((H.set i c).getD k 0) ≤ κa A ((H.set i c).getD ((k - 1) / 2) 0)) → WF N n (H.set i c) (S.set c (Int32.ofNat i)) ∧ Ord' A n (H.set i c) ∧ ((H.set i c).take n).Perm ((H.set i c).take n) := fun h =>
      ⟨⟨by rw [List.length_set]; exact hH, by rw [List.length_set]; exact hS, hn, hB.set i hc, hPS, hAB⟩, h, List.Perm.refl _⟩
    by_cases h0 : 0 < i
    · have hp : (i - 1) / 2 ≠ i := by omega
      have hpn : (i - 1) / 2 < n := by omega
      by_cases q : FP.dcmp (A.getD (H.getD ((i - 1) / 2) 0) 0) (A.getD c 0) = some .lt
      · rw [upB_go h0 q]
        have q' : κa A (H.getD ((i - 1) / 2) 0) < κa A c := (cmp_lt (hA _) (hA _)).mp q
        obtain ⟨w1, w2, -⟩ := swapWF N9 hi hpn hp hH hS hn hB hc hPS hAB
        have gI1 := gs (l := H) (i := i) (by omega) (H.getD ((i - 1) / 2) 0) 0
        have gI2 := gs (l := H.set i (H.getD ((i - 1) / 2) 0)) (i := (i - 1) / 2) (by rw [List.length_set]; omega) c 0
        simp only [gI1] at gI2
        obtain ⟨r1, r2, r3⟩ := ih ((i - 1) / 2) (by omega) (H.set i (H.getD ((i - 1) / 2) 0)) (S.set (H.getD ((i - 1) / 2) 0) (Int32.ofNat i)) hpn (by rw [List.length_set]; exact hH) (by rw [List.length_set]; exact hS) (hB.set i (hB _)) w1 w2
          (by
            intro k k0 hk ne
            rw [gI2, gI2, if_neg ne]
            by_cases e2 : k = i
            · subst e2; rw [if_pos rfl, if_pos rfl]; omega
            · rw [if_neg e2]
              have Hi := H2 k k0 hk e2
              rw [gI, gI, if_neg e2] at Hi
              by_cases e3 : (k - 1) / 2 = (i - 1) / 2
              · rw [if_pos e3]
                have e4 : (k - 1) / 2 ≠ i := by omega
                rw [if_neg e4, e3] at Hi
                omega
              · rw [if_neg e3]
                by_cases e4 : (k - 1) / 2 = i
                · rw [if_pos e4]
                  have H := H3 h0 k hk k0 e4
                  rw [gI, gI, if_neg hp, if_neg e2] at H
                  exact H
                · rw [if_neg e4]; rw [if_neg e4] at Hi; exact Hi)
          (by
            intro p0 k hk k0 ep
            have hpp : ((i - 1) / 2 - 1) / 2 ≠ (i - 1) / 2 := by omega
            have hpp2 : ((i - 1) / 2 - 1) / 2 ≠ i := by omega
            rw [gI2, gI2, if_neg hpp, if_neg hpp2]
            have Hp := H2 ((i - 1) / 2) p0 hpn hp
            rw [gI, gI, if_neg hpp2, if_neg hp] at Hp
            have e1 : k ≠ (i - 1) / 2 := by omega
            rw [if_neg e1]
            by_cases e2 : k = i
            · rw [if_pos e2]; exact Hp
            · rw [if_neg e2]
              have Hi := H2 k k0 hk e2
              have e4 : (k - 1) / 2 ≠ i := by omega
              rw [gI, gI, if_neg e2, if_neg e4, ep] at Hi
              omega)
        refine ⟨r1, r2, r3.trans ?_⟩
        have e := takeSwap (H.set i c) 0 (n := n) (i := i) (j := (i - 1) / 2) (by rw [List.length_set]; omega) hi hpn
        rw [List.set_set, gI, if_neg hp, gI, if_pos rfl] at e
        exact e
      · rw [upB_stop h0 q]
        have q' : κa A c ≤ κa A (H.getD ((i - 1) / 2) 0) := Int.not_lt.mp (fun z => q ((cmp_lt (hA _) (hA _)).mpr z))
        refine fin fun k k0 hk => ?_
        by_cases e : k = i
        · subst e; rw [gI, gI, if_pos rfl, if_neg hp]; exact q'
        · exact H2 k k0 hk e
    · rw [upB_zero h0]
      exact fin fun k k0 hk => H2 k k0 hk (by omega)
theorem downB_spec {A : List UInt64} {N n c : Nat} (N9 : N < 100) (hA : Nums A) (hn : n ≤ N) (hc : c < N) : ∀ (f i : Nat) (H : List Nat) (S : List Int32), n - i ≤ f → i < n → H.length = N → S.length = N → Bd N H → PS n (H.set i c) (S.set c (Int32.ofNat i)) → ABS N n (H.set i c) (S.set c (Int32.ofNat i)) →
    (∀ k, 0 < k → k < n → (k - 1) / 2 ≠ i → κa A ((H.set i c).getD k 0) ≤ κa A ((H.set i c).getD ((k - 1) / 2) 0)) →
    (0 < i → ∀ k, k < n → 0 < k → (k - 1) / 2 = i → κa A ((H.set i c).getD k 0) ≤ κa A ((H.set i c).getD ((i - 1) / 2) 0)) →
    WF N n (downB A n c H S i).1 (downB A n c H S i).2 ∧ Ord' A n (downB A n c H S i).1 ∧ ((downB A n c H S i).1.take n).Perm ((H.set i c).take n) := by
  intro f
  induction f with
  | zero => intro i H S hf hi; omega
  | succ f ih =>
    intro i H S hf hi hH hS hB hPS hAB H2 H3
    have gI := gs (l := H) (i := i) (by omega) c 0
    have fin : (∀ k, 0 < k → k < n → κa A ((H.set i c).getD k 0) ≤ κa A ((H.set i c).getD ((k - 1) / 2) 0)) → WF N n (H.set i c) (S.set c (Int32.ofNat i)) ∧ Ord' A n (H.set i c) ∧ ((H.set i c).take n).Perm ((H.set i c).take n) := fun h =>
      ⟨⟨by rw [List.length_set]; exact hH, by rw [List.length_set]; exact hS, hn, hB.set i hc, hPS, hAB⟩, h, List.Perm.refl _⟩
    by_cases h0 : 2 * i + 1 < n
    · have hb := kidB_bd A n H i
      have hcn : kidB A n H i < n := by omega
      have hch : kidB A n H i ≠ i := by omega
      have most : ∀ k, k < n → 0 < k → (k - 1) / 2 = i → κa A (H.getD k 0) ≤ κa A (H.getD (kidB A n H i) 0) := by
        intro k hk k0 ek
        have hk2 : k = 2 * i + 1 ∨ k = 2 * i + 2 := by omega
        unfold kidB
        split
        · rename_i z
          have := (cmp_gt (hA _) (hA _)).mp z.2
          rcases hk2 with rfl | rfl
          · exact Int.le_of_lt this
          · exact Int.le_refl _
        · rename_i z
          rcases hk2 with rfl | rfl
          · exact Int.le_refl _
          · exact Int.not_lt.mp (fun t => z ⟨hk, (cmp_gt (hA _) (hA _)).mpr t⟩)
      by_cases q : Jvm.OwnWp.dle (FP.dcmp (A.getD (H.getD (kidB A n H i) 0) 0) (A.getD c 0))
      · rw [downB_stop h0 q]
        have q' : κa A (H.getD (kidB A n H i) 0) ≤ κa A c := (cmp_le (hA _) (hA _)).mp q
        refine fin fun k k0 hk => ?_
        by_cases e : (k - 1) / 2 = i
        · have := most k hk k0 e
          rw [gI, gI, if_pos e, if_neg (by omega)]; omega
        · exact H2 k k0 hk e
      · rw [downB_go h0 q]
        have q' : κa A c < κa A (H.getD (kidB A n H i) 0) := Int.not_le.mp (fun z => q ((cmp_le (hA _) (hA _)).mpr z))
        obtain ⟨w1, w2, -⟩ := swapWF N9 hi hcn hch hH hS hn hB hc hPS hAB
        have gI1 := gs (l := H) (i := i) (by omega) (H.getD (kidB A n H i) 0) 0
        have gI2 := gs (l := H.set i (H.getD (kidB A n H i) 0)) (i := kidB A n H i) (by rw [List.length_set]; omega) c 0
        simp only [gI1] at gI2
        obtain ⟨r1, r2, r3⟩ := ih (kidB A n H i) (H.set i (H.getD (kidB A n H i) 0)) (S.set (H.getD (kidB A n H i) 0) (Int32.ofNat i)) (by omega) hcn (by rw [List.length_set]; exact hH) (by rw [List.length_set]; exact hS) (hB.set i (hB _)) w1 w2
          (by
            intro k k0 hk ne
            rw [gI2, gI2, if_neg ne]
            by_cases e1 : k = kidB A n H i
            · rw [if_pos e1]
              have e3 : (k - 1) / 2 = i := by omega
              rw [if_pos e3]; omega
            · rw [if_neg e1]
              by_cases e3 : (k - 1) / 2 = i
              · rw [if_pos e3, if_neg (by omega)]; exact most k hk k0 e3
              · rw [if_neg e3]
                have Hi := H2 k k0 hk e3
                rw [gI, gI, if_neg e3] at Hi
                by_cases e2 : k = i
                · rw [if_pos e2]
                  subst e2
                  have H := H3 k0 (kidB A n H k) hcn (by omega) (by omega)
                  rw [gI, gI, if_neg e3, if_neg hch] at H
                  exact H
                · rw [if_neg e2]; rw [if_neg e2] at Hi; exact Hi)
          (by
            intro p0 k hk k0 ep
            have e5 : (kidB A n H i - 1) / 2 = i := by omega
            rw [e5, gI2, gI2, if_neg (show ¬ k = kidB A n H i by omega), if_neg (show ¬ k = i by omega), if_neg (fun z => hch z.symm), if_pos rfl]
            have Hi := H2 k k0 hk (by omega)
            rw [gI, gI, if_neg (show ¬ k = i by omega), if_neg (show ¬ (k - 1) / 2 = i by omega), ep] at Hi
            exact Hi)
        refine ⟨r1, r2, r3.trans ?_⟩
        have e := takeSwap (H.set i c) 0 (n := n) (i := i) (j := kidB A n H i) (by rw [List.length_set]; omega) hi hcn
        rw [List.set_set, gI, if_neg hch, gI, if_pos rfl] at e
        exact e
    · rw [downB_end h0]
      exact fin fun k k0 hk => H2 k k0 hk (by omega)
theorem rootB {A : List UInt64} {n : Nat} {H : List Nat} (h : Ord' A n H) : ∀ i, i < n → κa A (H.getD i 0) ≤ κa A (H.getD 0 0) := by
  intro i
  induction i using Nat.strongRecOn with
  | _ i ih =>
    intro hi
    by_cases z : i = 0
    · subst z; exact Int.le_refl _
    · exact Int.le_trans (h i (by omega) hi) (ih ((i - 1) / 2) (by omega) (by omega))
theorem not_in {N n : Nat} {H : List Nat} {S : List Int32} (h : WF N n H S) (N9 : N < 100) {c : Nat} (hc : S.getD c 0 = -1) : ∀ i, i < n → H.getD i 0 ≠ c := fun i hi e => by
  obtain ⟨-, -, hn, -, hPS, -⟩ := h
  have := hPS i hi
  rw [e, hc] at this
  exact o_nm1 (by omega) this.symm
theorem push_spec {A : List UInt64} {N n c : Nat} {H : List Nat} {S : List Int32} (N9 : N < 100) (hA : Nums A) (h : WF N n H S) (o : Ord' A n H) (hn : n < N) (hc : c < N) (hs : S.getD c 0 = -1) :
    WF N (n + 1) (pushB A c H S n).1 (pushB A c H S n).2 ∧ Ord' A (n + 1) (pushB A c H S n).1 ∧ ((pushB A c H S n).1.take (n + 1)).Perm (c :: H.take n) := by
  have hno := not_in h N9 hs
  obtain ⟨hH, hS, -, hB, hPS, hAB⟩ := h
  have gI := gs (l := H) (i := n) (by omega) c 0
  have gS := gs (l := S) (i := c) (by omega) (Int32.ofNat n) 0
  unfold pushB
  obtain ⟨a, b, d⟩ := upB_spec N9 hA (n := n + 1) (c := c) (by omega) hc n (H.set n c) (S.set c (Int32.ofNat n)) (by omega) (by rw [List.length_set]; exact hH) (by rw [List.length_set]; exact hS) (hB.set n hc)
    (by
      rw [List.set_set, List.set_set]
      intro k hk
      rw [gI, gS]
      by_cases e : k = n
      · rw [if_pos e, if_pos rfl, e]
      · rw [if_neg e, if_neg (hno k (by omega))]; exact hPS k (by omega))
    (by
      rw [List.set_set, List.set_set]
      intro c' hc' hq
      have n1 : c' ≠ c := fun e => hq n (by omega) (by rw [gI, if_pos rfl]; exact e.symm)
      rw [gS, if_neg n1]
      exact hAB c' hc' (fun k hk e => hq k (by omega) (by rw [gI, if_neg (by omega)]; exact e)))
    (by
      rw [List.set_set]
      intro k k0 hk ne
      rw [gI, gI, if_neg ne, if_neg (by omega)]; exact o k k0 (by omega))
    (by intro z k hk k0 ek; omega)
  refine ⟨a, b, d.trans ?_⟩
  rw [List.set_set]
  have e : (H.set n c).take (n + 1) = H.take n ++ [c] := by
    rw [List.set_eq_take_append_cons_drop, if_pos (by omega), List.take_append, List.length_take, Nat.min_eq_left (by omega), List.take_take]
    simp
  rw [e]
  exact List.perm_append_comm
/-- an activity that grows: its choice goes up -/
theorem rise_spec {A : List UInt64} {N n c i : Nat} {H : List Nat} {S : List Int32} {a : UInt64} (N9 : N < 100) (hA : Nums A) (ha : Num a) (h : WF N n H S) (o : Ord' A n H) (hcA : c < A.length) (hi : i < n) (hc : H.getD i 0 = c) (hg : kv (A.getD c 0) ≤ kv a) :
    WF N n (upB (A.set c a) (H.getD i 0) H S i).1 (upB (A.set c a) (H.getD i 0) H S i).2 ∧ Ord' (A.set c a) n (upB (A.set c a) (H.getD i 0) H S i).1 ∧ ((upB (A.set c a) (H.getD i 0) H S i).1.take n).Perm (H.take n) := by
  obtain ⟨hH, hS, hn, hB, hPS, hAB⟩ := h
  have hcN : c < N := hc ▸ hB i
  have gA := gs (l := A) (i := c) hcA a 0
  have hA' : Nums (A.set c a) := by
    intro j
    show Num ((A.set c a).getD j 0)
    rw [gA]
    split
    · exact ha
    · exact hA j
  have e1 : H.set i c = H := setSame (by omega) hc
  have e2 : S.set c (Int32.ofNat i) = S := setSame (d := 0) (by omega) (by rw [← hc]; exact hPS i hi)
  rw [hc]
  have hne : ∀ k, k < n → k ≠ i → H.getD k 0 ≠ c := fun k hk ne e => ne (hPS.inj (by omega) hk hi (e.trans hc.symm))
  have k1 : ∀ x, x ≠ c → κa (A.set c a) x = κa A x := fun x hx => by unfold κa; rw [gA, if_neg hx]
  have k2 : κa A c ≤ κa (A.set c a) c := by unfold κa; rw [gA, if_pos rfl]; exact hg
  have k3 : ∀ x, κa A x ≤ κa (A.set c a) x := fun x => by
    by_cases e : x = c
    · rw [e]; exact k2
    · rw [k1 x e]; exact Int.le_refl _
  obtain ⟨a1, a2, a3⟩ := upB_spec N9 hA' hn hcN i H S hi hH hS hB (by rw [e1, e2]; exact hPS) (by rw [e1, e2]; exact hAB)
    (by
      rw [e1]
      intro k k0 hk ne
      rw [k1 _ (hne k hk ne)]
      exact Int.le_trans (o k k0 hk) (k3 _))
    (by
      rw [e1]
      intro i0 k hk k0 ek
      have o1 := o k k0 hk
      rw [ek] at o1
      have o2 := o i i0 hi
      rw [k1 _ (hne k hk (by omega)), k1 _ (hne ((i - 1) / 2) (by omega) (by omega))]
      exact Int.le_trans o1 o2)
  rw [e1] at a3
  exact ⟨a1, a2, a3⟩
theorem pop_spec {A : List UInt64} {N n : Nat} {H : List Nat} {S : List Int32} (N9 : N < 100) (hA : Nums A) (h : WF N n H S) (o : Ord' A n H) (h0 : 0 < n) :
    WF N (n - 1) (popB A H S n).1 (popB A H S n).2 ∧ Ord' A (n - 1) (popB A H S n).1 ∧ (H.take n).Perm (H.getD 0 0 :: (popB A H S n).1.take (n - 1)) ∧ ∀ x ∈ H.take n, κa A x ≤ κa A (H.getD 0 0) := by
  obtain ⟨hH, hS, hn, hB, hPS, hAB⟩ := h
  have ht := hB 0
  have hl := hB (n - 1)
  have hmax : ∀ x ∈ H.take n, κa A x ≤ κa A (H.getD 0 0) := by
    intro x hx
    obtain ⟨i, hi, e⟩ := List.getElem_of_mem hx
    rw [List.length_take] at hi
    have := rootB o i (by omega)
    rw [List.getElem_take] at e
    rw [gi H i 0 (by omega), e] at this
    exact this
  have hp : (H.take n).Perm (H.getD 0 0 :: (H.set 0 (H.getD (n - 1) 0)).take (n - 1)) := by
    have e := takeSwap H 0 (n := n) (i := 0) (j := n - 1) (by omega) h0 (by omega)
    refine e.symm.trans ?_
    have e2 : ((H.set 0 (H.getD (n - 1) 0)).set (n - 1) (H.getD 0 0)).take n = (H.set 0 (H.getD (n - 1) 0)).take (n - 1) ++ [H.getD 0 0] := by
      rw [List.set_eq_take_append_cons_drop (i := n - 1), if_pos (by rw [List.length_set]; omega), List.take_append, List.length_take, List.length_set, Nat.min_eq_left (by omega), List.take_take, Nat.min_eq_right (by omega), show n - (n - 1) = 1 by omega]
      simp
    rw [e2]
    exact List.perm_append_comm
  have gT := gs (l := S) (i := H.getD 0 0) (by omega) (-1) 0
  by_cases h1 : 0 < n - 1
  · have e : popB A H S n = downB A (n - 1) (H.getD (n - 1) 0) (H.set 0 (H.getD (n - 1) 0)) ((S.set (H.getD 0 0) (-1)).set (H.getD (n - 1) 0) (Int32.ofNat 0)) 0 := by unfold popB; rw [if_pos h1]
    rw [e]
    have gI := gs (l := H) (i := 0) (by omega) (H.getD (n - 1) 0) 0
    have gS := gs (l := S.set (H.getD 0 0) (-1)) (i := H.getD (n - 1) 0) (by rw [List.length_set]; omega) (Int32.ofNat 0) 0
    simp only [gT] at gS
    have hne : ∀ k, k < n - 1 → k ≠ 0 → H.getD k 0 ≠ H.getD 0 0 ∧ H.getD k 0 ≠ H.getD (n - 1) 0 := fun k hk z =>
      ⟨fun e => z (hPS.inj (by omega) (by omega) h0 e), fun e => by have := hPS.inj (by omega) (by omega) (by omega) e; omega⟩
    have htl : H.getD 0 0 ≠ H.getD (n - 1) 0 := fun e => by have := hPS.inj (by omega) h0 (by omega) e; omega
    obtain ⟨a, b, c⟩ := downB_spec N9 hA (n := n - 1) (c := H.getD (n - 1) 0) (by omega) hl _ 0 (H.set 0 (H.getD (n - 1) 0)) ((S.set (H.getD 0 0) (-1)).set (H.getD (n - 1) 0) (Int32.ofNat 0)) (Nat.le_refl _) h1 (by rw [List.length_set]; exact hH) (by rw [List.length_set, List.length_set]; exact hS) (hB.set 0 hl)
      (by
        rw [List.set_set, List.set_set]
        intro k hk
        rw [gI, gS]
        by_cases z : k = 0
        · rw [if_pos z, if_pos rfl, z]
        · rw [if_neg z, if_neg (hne k hk z).2, if_neg (hne k hk z).1]; exact hPS k (by omega))
      (by
        rw [List.set_set, List.set_set]
        intro c' hc' hq
        have n1 : c' ≠ H.getD (n - 1) 0 := fun z => hq 0 h1 (by rw [gI, if_pos rfl]; exact z.symm)
        rw [gS, if_neg n1]
        by_cases n2 : c' = H.getD 0 0
        · rw [if_pos n2]
        · rw [if_neg n2]
          refine hAB c' hc' (fun k hk e => ?_)
          by_cases z : k = 0
          · exact n2 (by rw [← e, z])
          · by_cases z2 : k = n - 1
            · exact n1 (by rw [← e, z2])
            · exact hq k (by omega) (by rw [gI, if_neg z]; exact e))
      (by
        rw [List.set_set]
        intro k k0 hk ne
        rw [gI, gI, if_neg (show ¬ k = 0 by omega), if_neg ne]; exact o k k0 (by omega))
      (by intro z; omega)
    rw [List.set_set] at c
    exact ⟨a, b, hp.trans (List.Perm.cons _ c.symm), hmax⟩
  · have e : popB A H S n = (H, S.set (H.getD 0 0) (-1)) := by unfold popB; rw [if_neg h1]
    have en : n = 1 := by omega
    subst en
    rw [e]
    refine ⟨⟨hH, by rw [List.length_set]; exact hS, by omega, hB, fun i hi => by omega, fun c hc hq => ?_⟩, fun i _ hi => by omega, by simpa using hp, hmax⟩
    show (S.set (H.getD 0 0) (-1)).getD c 0 = -1
    rw [gT]
    by_cases z : c = H.getD 0 0
    · rw [if_pos z]
    · rw [if_neg z]
      exact hAB c hc (fun k hk e => z (by rw [← e]; congr 1; omega))
end OrderB

/-! the heap's laws where every gain is one: a choice's activity is its number of bumps -/
section LawsB
open Jvm.OwnHeap
def bumpA (A : List UInt64) (c : Nat) : UInt64 := FP.dadd (A.getD c 0) 4607182418800017408
def Inv (N B n : Nat) (q T : List Nat) (A : List UInt64) (H : List Nat) (S : List Int32) : Prop := (A.length = N) ∧ (q.length = N) ∧ (WF N n H S) ∧ (Ord' A n H) ∧ (∀ j, Jvm.FP.Core.DInt (q.getD j 0 : Nat) (A.getD j 0)) ∧ (∀ j, q.getD j 0 ≤ B) ∧ ((H.take n).Perm T)
theorem Inv.lA {N B n : Nat} {q T : List Nat} {A : List UInt64} {H : List Nat} {S : List Int32} (h : Inv N B n q T A H S) : A.length = N := h.1
theorem Inv.lq {N B n : Nat} {q T : List Nat} {A : List UInt64} {H : List Nat} {S : List Int32} (h : Inv N B n q T A H S) : q.length = N := h.2.1
theorem Inv.wf {N B n : Nat} {q T : List Nat} {A : List UInt64} {H : List Nat} {S : List Int32} (h : Inv N B n q T A H S) : WF N n H S := h.2.2.1
theorem Inv.od {N B n : Nat} {q T : List Nat} {A : List UInt64} {H : List Nat} {S : List Int32} (h : Inv N B n q T A H S) : Ord' A n H := h.2.2.2.1
theorem Inv.di {N B n : Nat} {q T : List Nat} {A : List UInt64} {H : List Nat} {S : List Int32} (h : Inv N B n q T A H S) : ∀ j, Jvm.FP.Core.DInt (q.getD j 0 : Nat) (A.getD j 0) := h.2.2.2.2.1
theorem Inv.bd {N B n : Nat} {q T : List Nat} {A : List UInt64} {H : List Nat} {S : List Int32} (h : Inv N B n q T A H S) : ∀ j, q.getD j 0 ≤ B := h.2.2.2.2.2.1
theorem Inv.pm {N B n : Nat} {q T : List Nat} {A : List UInt64} {H : List Nat} {S : List Int32} (h : Inv N B n q T A H S) : (H.take n).Perm T := h.2.2.2.2.2.2
theorem Inv.mk {N B n : Nat} {q T : List Nat} {A : List UInt64} {H : List Nat} {S : List Int32} (h0 : A.length = N) (h1 : q.length = N) (h2 : WF N n H S) (h3 : Ord' A n H) (h4 : ∀ j, Jvm.FP.Core.DInt (q.getD j 0 : Nat) (A.getD j 0)) (h5 : ∀ j, q.getD j 0 ≤ B) (h6 : (H.take n).Perm T) : Inv N B n q T A H S := ⟨h0, h1, h2, h3, h4, h5, h6⟩
theorem inv_nums {N B n : Nat} {q T : List Nat} {A : List UInt64} {H : List Nat} {S : List Int32} (h : Inv N B n q T A H S) : Nums A := fun j => num_int (h.di j)
theorem inv_len {N B n : Nat} {q T : List Nat} {A : List UInt64} {H : List Nat} {S : List Int32} (h : Inv N B n q T A H S) : T.length = n := by
  have := h.pm.length_eq
  rw [List.length_take, h.wf.1] at this
  have := h.wf.2.2.1; omega
theorem memTake {H : List Nat} {n x : Nat} (hn : n ≤ H.length) : x ∈ H.take n ↔ ∃ i, i < n ∧ H.getD i 0 = x := by
  rw [List.mem_iff_getElem]
  constructor
  · rintro ⟨i, hi, e⟩
    rw [List.length_take] at hi
    refine ⟨i, by omega, ?_⟩
    rw [gi H i 0 (by omega), ← e, List.getElem_take]
  · rintro ⟨i, hi, e⟩
    refine ⟨i, by rw [List.length_take]; omega, ?_⟩
    rw [List.getElem_take, ← e, gi H i 0 (by omega)]
theorem nodupTake {N n : Nat} {H : List Nat} {S : List Int32} (N9 : N < 100) (h : WF N n H S) : (H.take n).Nodup := by
  obtain ⟨hH, hS, hn, hB, hPS, hAB⟩ := h
  rw [List.nodup_iff_pairwise_ne, List.pairwise_iff_getElem]
  intro i j hi hj hij e
  rw [List.length_take] at hi hj
  rw [List.getElem_take, List.getElem_take, ← gi H i 0 (by omega), ← gi H j 0 (by omega)] at e
  have := hPS.inj (by omega) (by omega) (by omega) e
  omega
theorem inv_nodup {N B n : Nat} {q T : List Nat} {A : List UInt64} {H : List Nat} {S : List Int32} (N9 : N < 100) (h : Inv N B n q T A H S) : T.Nodup := h.pm.nodup_iff.mp (nodupTake N9 h.wf)
theorem zv_big : ((1001 : Int) * (Jvm.FP.Core.one64 : Int)) ≤ kv 6103021453049119613 := by decide +kernel
theorem num_big : Num 6103021453049119613 := by unfold Num; decide +kernel
theorem bump_di {q : List Nat} {A : List UInt64} {c : Nat} (hd : Jvm.FP.Core.DInt (q.getD c 0 : Nat) (A.getD c 0)) (hb : q.getD c 0 ≤ 1000) :
    Jvm.FP.Core.DInt (q.getD c 0 + 1 : Nat) (bumpA A c) ∧ Jvm.Free.Fl.NoNaN64 (bumpA A c) ∧ ¬ FP.dcmp (bumpA A c) 6103021453049119613 = some .gt := by
  have d1 : Jvm.FP.Core.DInt (q.getD c 0 + 1 : Nat) (bumpA A c) := by
    have := Jvm.FP.Core.dadd_int hd Jvm.FP.Core.dint_one (by omega)
    exact_mod_cast this
  refine ⟨d1, Jvm.Free.Fl.val64_no.mpr (Jvm.FP.Core.DInt_ne_nan d1), fun g => ?_⟩
  have g1 := (cmp_gt (num_int d1) num_big).mp g
  rw [kv_int d1] at g1
  have hp : (0 : Int) < (Jvm.FP.Core.one64 : Int) := by have := Jvm.FP.Core.one64_pos; omega
  have g2 : ((q.getD c 0 + 1 : Nat) : Int) * (Jvm.FP.Core.one64 : Int) ≤ 1001 * (Jvm.FP.Core.one64 : Int) := Int.mul_le_mul_of_nonneg_right (by omega) (Int.le_of_lt hp)
  have := zv_big
  omega
theorem inv_kv {N B n : Nat} {q T : List Nat} {A : List UInt64} {H : List Nat} {S : List Int32} (h : Inv N B n q T A H S) (x y : Nat) : κa A x ≤ κa A y ↔ q.getD x 0 ≤ q.getD y 0 := by
  unfold κa
  rw [kv_int (h.di x), kv_int (h.di y)]
  have hp : (0 : Int) < (Jvm.FP.Core.one64 : Int) := by have := Jvm.FP.Core.one64_pos; omega
  constructor
  · intro g; have := Int.le_of_mul_le_mul_right g hp; omega
  · intro g; exact Int.mul_le_mul_of_nonneg_right (by omega) (Int.le_of_lt hp)
section
variable {N B n c : Nat} {q T : List Nat} {A : List UInt64} {H : List Nat} {S : List Int32}
theorem inv_set (h : Inv N B n q T A H S) (B9 : B ≤ 1000) (hc : c < N) :
    (∀ j, Jvm.FP.Core.DInt ((q.set c (q.getD c 0 + 1)).getD j 0 : Nat) ((A.set c (bumpA A c)).getD j 0)) ∧ (∀ j, (q.set c (q.getD c 0 + 1)).getD j 0 ≤ B + 1) := by
  have hb := h.bd c
  refine ⟨fun j => ?_, fun j => ?_⟩
  · rw [gs (by rw [h.lq]; exact hc), gs (by rw [h.lA]; exact hc)]
    split
    · exact (bump_di (h.di c) (by omega)).1
    · exact h.di j
  · rw [gs (by rw [h.lq]; exact hc)]
    split
    · omega
    · have := h.bd j; omega
theorem inv_bumpN (N9 : N < 100) (B9 : B ≤ 1000) (h : Inv N B n q T A H S) (hc : c < N) (ht : c ∉ T) (hn : n < N) :
    S.getD c 0 = -1 ∧ Jvm.Free.Fl.NoNaN64 (bumpA A c) ∧ ¬ FP.dcmp (bumpA A c) 6103021453049119613 = some .gt ∧
    Inv N (B + 1) (n + 1) (q.set c (q.getD c 0 + 1)) (c :: T) (A.set c (bumpA A c)) (pushB (A.set c (bumpA A c)) c H S n).1 (pushB (A.set c (bumpA A c)) c H S n).2 := by
  have hno : ∀ i, i < n → H.getD i 0 ≠ c := fun i hi e => ht (h.pm.mem_iff.mp ((memTake (by rw [h.wf.1]; omega)).mpr ⟨i, hi, e⟩))
  have hs := h.wf.2.2.2.2.2 c hc hno
  have hb := h.bd c
  obtain ⟨d1, d2, d3⟩ := bump_di (h.di c) (by omega)
  obtain ⟨e1, e2⟩ := inv_set h B9 hc
  have hA' : Nums (A.set c (bumpA A c)) := fun j => num_int (e1 j)
  have o' : Ord' (A.set c (bumpA A c)) n H := fun i h0 hi => by
    unfold κa
    rw [gs (by rw [h.lA]; exact hc), gs (by rw [h.lA]; exact hc), if_neg (hno i hi), if_neg (hno _ (by omega))]
    exact h.od i h0 hi
  obtain ⟨p1, p2, p3⟩ := push_spec N9 hA' h.wf o' hn hc hs
  exact ⟨hs, d2, d3, Inv.mk (by rw [List.length_set]; exact h.lA) (by rw [List.length_set]; exact h.lq) p1 p2 e1 e2 (p3.trans (h.pm.cons c))⟩
theorem inv_bumpU (N9 : N < 100) (B9 : B ≤ 1000) (h : Inv N B n q T A H S) (ht : c ∈ T) :
    c < N ∧ Jvm.Free.Fl.NoNaN64 (bumpA A c) ∧ (¬ FP.dcmp (bumpA A c) 6103021453049119613 = some .gt) ∧ ∃ i, i < N ∧ S.getD c 0 = Int32.ofNat i ∧
    Inv N (B + 1) n (q.set c (q.getD c 0 + 1)) T (A.set c (bumpA A c)) (upB (A.set c (bumpA A c)) (H.getD i 0) H S i).1 (upB (A.set c (bumpA A c)) (H.getD i 0) H S i).2 := by
  obtain ⟨i, hi, e⟩ := (memTake (by rw [h.wf.1]; exact h.wf.2.2.1)).mp (h.pm.mem_iff.mpr ht)
  have hc : c < N := e ▸ h.wf.2.2.2.1 i
  have hb := h.bd c
  obtain ⟨d1, d2, d3⟩ := bump_di (h.di c) (by omega)
  obtain ⟨e1, e2⟩ := inv_set h B9 hc
  have hg : kv (A.getD c 0) ≤ kv (bumpA A c) := by
    rw [kv_int (h.di c), kv_int d1]
    have hp : (0 : Int) < (Jvm.FP.Core.one64 : Int) := by have := Jvm.FP.Core.one64_pos; omega
    exact Int.mul_le_mul_of_nonneg_right (by omega) (Int.le_of_lt hp)
  obtain ⟨p1, p2, p3⟩ := rise_spec N9 (inv_nums h) (num_int d1) h.wf h.od (by rw [h.lA]; exact hc) hi e hg
  refine ⟨hc, d2, d3, i, by have := h.wf.2.2.1; omega, by rw [← e]; exact h.wf.2.2.2.2.1 i hi, Inv.mk (by rw [List.length_set]; exact h.lA) (by rw [List.length_set]; exact h.lq) p1 p2 e1 e2 (p3.trans h.pm)⟩
theorem inv_pop (N9 : N < 100) (h : Inv N B n q T A H S) (h0 : 0 < n) :
    H.getD 0 0 < N ∧ H.getD 0 0 ∈ T ∧ (∀ x ∈ T, q.getD x 0 ≤ q.getD (H.getD 0 0) 0) ∧ Inv N B (n - 1) q (T.erase (H.getD 0 0)) A (popB A H S n).1 (popB A H S n).2 := by
  obtain ⟨p1, p2, p3, p4⟩ := pop_spec N9 (inv_nums h) h.wf h.od h0
  have hm : H.getD 0 0 ∈ T := h.pm.mem_iff.mp ((memTake (by rw [h.wf.1]; exact h.wf.2.2.1)).mpr ⟨0, h0, rfl⟩)
  refine ⟨h.wf.2.2.2.1 0, hm, fun x hx => (inv_kv h x _).mp (p4 x (h.pm.mem_iff.mpr hx)), Inv.mk h.lA h.lq p1 p2 h.di h.bd ?_⟩
  have := (p3.symm.trans h.pm).erase (H.getD 0 0)
  rw [List.erase_cons_head] at this
  exact this
theorem inv_start {N : Nat} (N0 : 0 < N) : Inv N 0 0 (List.replicate N 0) [] (List.replicate N 0) (List.replicate N 0) (List.replicate N (-1)) := by
  have r0 : ∀ {α : Type} (x : α) (j : Nat), (List.replicate N x).getD j x = x := fun x j => by
    rw [List.getD_eq_getElem?_getD, List.getElem?_replicate]; split <;> rfl
  refine Inv.mk (List.length_replicate ..) (List.length_replicate ..) ⟨List.length_replicate .., List.length_replicate .., Nat.zero_le _, fun j => by rw [r0]; exact N0, fun i hi => absurd hi (Nat.not_lt_zero _), fun c hc _ => ?_⟩ (fun i _ hi => absurd hi (Nat.not_lt_zero _)) (fun j => ?_) (fun j => by rw [r0]; exact Nat.le_refl _) (by simp)
  · rw [List.getD_eq_getElem?_getD, List.getElem?_replicate, if_pos hc]; rfl
  · rw [r0, r0, show (0 : UInt64) = Jvm.FP.Core.i2d 0 by decide +kernel]; exact Jvm.FP.Core.i2d_int 0
end
end LawsB

set_option maxRecDepth 65536 in
set_option maxHeartbeats 40000000 in
theorem c_bumpN (l : Launch) (Z : State) (a0 : Array Value) (hw : ∀ d ∈ tables_1, d.before a0 Z = true) (ws : List Jvm.Cond) (b ka ha sa : Addr) (N n : Nat) (g : UInt64) (Al : List UInt64) (Hl : List Nat) (Sl : List Int32) (ch : Nat) (h0 : Heap) (n0 : Nat) (Z0 : n0 ≤ h0.size) (hA : Al.length = N) (hH : Hl.length = N) (hS : Sl.length = N) (N0 : 0 < N) (N9 : N < 100) (hB : Bd N Hl) (hn : n < N) (hch : ch < N) (hnn : Jvm.Free.Fl.NoNaN64 (FP.dadd (Al.getD ch 0) g)) (hbg : ¬ FP.dcmp (FP.dadd (Al.getD ch 0) g) 6103021453049119613 = some .gt) (hsl : Sl.getD ch 0 = -1) (E : Exa Z h0 b "com/example/sightline/sightline/checker/ByActivity") (F_act : Fld Z h0 b "com/example/sightline/sightline/checker/ByActivity" "activity" "[D" (.ref ka)) (F_heap : Fld Z h0 b "com/example/sightline/sightline/checker/ByActivity" "heap" "[I" (.ref ha)) (F_slot : Fld Z h0 b "com/example/sightline/sightline/checker/ByActivity" "slot" "[I" (.ref sa)) (F_count : Fld Z h0 b "com/example/sightline/sightline/checker/ByActivity" "count" "I" (.int (Int32.ofNat n))) (F_gain : Fld Z h0 b "com/example/sightline/sightline/checker/ByActivity" "gain" "D" (.double g)) (F_choices : Fld Z h0 b "com/example/sightline/sightline/checker/ByActivity" "choices" "I" (.int (Int32.ofNat N))) (VA : DV Z h0 ka Al) (VH : HV Z h0 ha Hl) (VS : IV Z h0 sa Sl) (ne_ka_b : ka ≠ b) (ne_ha_b : ha ≠ b) (ne_sa_b : sa ≠ b) (ne_ha_ka : ha ≠ ka) (ne_sa_ka : sa ≠ ka) (ne_sa_ha : sa ≠ ha) (ge_b : n0 ≤ b) (ge_ka : n0 ≤ ka) (ge_ha : n0 ≤ ha) (ge_sa : n0 ≤ sa) :
    Ctr l Z (⟨"com/example/sightline/sightline/checker/ByActivity", "bump", "(I)V"⟩ : MethodName) prog_2_method_2_code 2 none ws ({ frames := 3, cells := 0, slots := 0, locals := 41 } : Room) n0 #[(.ref b), (.int (Int32.ofNat ch))] h0 (fun v h => v = none ∧ Keep h0 h [b, ka, ha, sa] ∧ Exa Z h b "com/example/sightline/sightline/checker/ByActivity" ∧ Fld Z h b "com/example/sightline/sightline/checker/ByActivity" "activity" "[D" (.ref ka) ∧ Fld Z h b "com/example/sightline/sightline/checker/ByActivity" "heap" "[I" (.ref ha) ∧ Fld Z h b "com/example/sightline/sightline/checker/ByActivity" "slot" "[I" (.ref sa) ∧ Fld Z h b "com/example/sightline/sightline/checker/ByActivity" "count" "I" (.int (Int32.ofNat (n + 1))) ∧ Fld Z h b "com/example/sightline/sightline/checker/ByActivity" "gain" "D" (.double g) ∧ Fld Z h b "com/example/sightline/sightline/checker/ByActivity" "choices" "I" (.int (Int32.ofNat N)) ∧ DV Z h ka (Al.set ch (FP.dadd (Al.getD ch 0) g)) ∧ HV Z h ha (pushB (Al.set ch (FP.dadd (Al.getD ch 0) g)) ch Hl Sl n).1 ∧ IV Z h sa (pushB (Al.set ch (FP.dadd (Al.getD ch 0) g)) ch Hl Sl n).2) := by
  refine ctr (own := "com/example/sightline/sightline/checker/ByActivity") (nm := "bump") rfl rfl (Ls := #[.val (.ref b), .val (.int (Int32.ofNat ch))]) (plainFor_of_name pn0) (fun m => by first | (simp [entryFrame, mkF, argsToLocals, Value.category]; done) | rfl) ?_
  intro p e s m below meth c K eh
  have P0 := Keep.refl h0 [b, ka, ha, sa]
  refine Jvm.OwnWp.aloadN K d_prog_2_method_2_0 rfl rfl (pc' := 1) rfl ?_
  refine Jvm.OwnWp.getf K (wd24 hw) Via.refl F_act d_prog_2_method_2_1 (pc' := 4) rfl ?_
  refine nonnullY K d_prog_2_method_2_4 (pc' := 45) (by decide) (by decide) ?_
  refine Jvm.OwnWp.aloadN K d_prog_2_method_2_45 rfl rfl (pc' := 46) rfl ?_
  refine Jvm.OwnWp.getf K (wd24 hw) Via.refl F_act d_prog_2_method_2_46 (pc' := 49) rfl ?_
  refine Jvm.OwnWp.iloadN K d_prog_2_method_2_49 rfl (pc' := 50) rfl ?_
  refine Jvm.OwnWp.dup2 K d_prog_2_method_2_50 rfl rfl (pc' := 51) rfl ?_
  refine daload K (i := ch) VA (o_int (by omega)) (mapAt (getDAt (d := 0) (by omega))) d_prog_2_method_2_51 (pc' := 52) rfl ?_
  refine Jvm.OwnWp.aloadN K d_prog_2_method_2_52 rfl rfl (pc' := 53) rfl ?_
  refine Jvm.OwnWp.getf K (wd9 hw) Via.refl F_gain d_prog_2_method_2_53 (pc' := 56) rfl ?_
  refine Jvm.OwnWp.dadd K d_prog_2_method_2_56 hnn (pc' := 57) rfl ?_
  refine dastore K (i := ch) VA (o_int (by omega)) (mapLt (by omega)) ge_ka d_prog_2_method_2_57 (pc' := 58) rfl ?_
  intro h20 W20
  have F20_activity_b := (Fld.other W20 F_act (Or.inl (Ne.symm ne_ka_b)))
  have F20_heap_b := (Fld.other W20 F_heap (Or.inl (Ne.symm ne_ka_b)))
  have F20_slot_b := (Fld.other W20 F_slot (Or.inl (Ne.symm ne_ka_b)))
  have F20_count_b := (Fld.other W20 F_count (Or.inl (Ne.symm ne_ka_b)))
  have F20_gain_b := (Fld.other W20 F_gain (Or.inl (Ne.symm ne_ka_b)))
  have F20_choices_b := (Fld.other W20 F_choices (Or.inl (Ne.symm ne_ka_b)))
  have X20_b := (Exa.wr W20 E)
  have V20_ha := (VH.other W20 ne_ha_ka)
  have V20_sa := (VS.other W20 ne_sa_ka)
  have P20 := (P0.wr W20 (Or.inl (List.mem_of_getElem? (i := 1) rfl)))
  have V20_ka := VA.set W20
  refine Jvm.OwnWp.aloadN K d_prog_2_method_2_58 rfl rfl (pc' := 59) rfl ?_
  refine Jvm.OwnWp.getf K (wd24 hw) Via.refl F20_activity_b d_prog_2_method_2_59 (pc' := 62) rfl ?_
  refine Jvm.OwnWp.iloadN K d_prog_2_method_2_62 rfl (pc' := 63) rfl ?_
  refine daload K (i := ch) V20_ka (o_int (by omega)) (mapAt (by rw [List.getElem?_set_self (by omega)])) d_prog_2_method_2_63 (pc' := 64) rfl ?_
  refine Jvm.OwnWp.ldc2D K (wd35 hw) d_prog_2_method_2_64 (pc' := 67) rfl ?_
  refine Jvm.OwnWp.dcmp K d_prog_2_method_2_67 (pc' := 68) rfl ?_
  refine ifY K d_prog_2_method_2_68 (dd_l_le_t hbg) (pc' := 75) (by decide) (by decide) ?_
  refine Jvm.OwnWp.aloadN K d_prog_2_method_2_75 rfl rfl (pc' := 76) rfl ?_
  refine Jvm.OwnWp.getf K (wd29 hw) Via.refl F20_slot_b d_prog_2_method_2_76 (pc' := 79) rfl ?_
  refine Jvm.OwnWp.iloadN K d_prog_2_method_2_79 rfl (pc' := 80) rfl ?_
  refine iaload K (i := ch) V20_sa (o_int (by omega)) (mapAt (by rw [getDAt (d := 0) (by omega), hsl])) d_prog_2_method_2_80 (pc' := 81) rfl ?_
  refine Jvm.OwnWp.iconst K (-1 : Int32) d_prog_2_method_2_81 (by decide) (pc' := 82) rfl ?_
  refine icN K d_prog_2_method_2_82 (by decide) (pc' := 85) rfl ?_
  refine Jvm.OwnWp.aloadN K d_prog_2_method_2_85 rfl rfl (pc' := 86) rfl ?_
  refine Jvm.OwnWp.iloadN K d_prog_2_method_2_86 rfl (pc' := 87) rfl ?_
  refine callVirt K (y := (⟨"com/example/sightline/sightline/checker/ByActivity", "push", "(I)V"⟩ : MethodName)) (b := b) (argsL := [(.int (Int32.ofNat ch))]) (S := []) (wd36 hw) (wd37 hw) (wd39 hw) (wd38 hw) (wd2 hw) (wd40 hw) (by decide) X20_b (c_push l Z a0 hw [] b ka ha sa N n g (Al.set ch (FP.dadd (Al.getD ch 0) g)) Hl Sl ch h20 n0 (Nat.le_trans Z0 P20.1) (by rw [List.length_set]; exact hA) hH hS N0 N9 hB (by omega) hch X20_b F20_activity_b F20_heap_b F20_slot_b F20_count_b F20_gain_b F20_choices_b V20_ka V20_ha V20_sa ne_ka_b ne_ha_b ne_sa_b ne_ha_ka ne_sa_ka ne_sa_ha ge_b ge_ka ge_ha ge_sa) (lenOf pd1 rfl) d_prog_2_method_2_87 rfl (Nat.le_of_ble_eq_true rfl) (Nat.le_of_ble_eq_true rfl) (Nat.le_of_ble_eq_true rfl) (Nat.le_of_ble_eq_true rfl) rfl (pc' := 90) rfl ?_
  rintro v21 h21 ⟨rfl, K21, Q21_E, Q21_F_act, Q21_F_heap, Q21_F_slot, Q21_F_count, Q21_F_gain, Q21_F_choices, Q21_VA, Q21_VH, Q21_VS⟩
  have X21_b := (Exa.keep X20_b K21)
  have V21_ka := (V20_ka.keep K21 (ninS ne_ka_b (ninS (Ne.symm ne_ha_ka) (ninS (Ne.symm ne_sa_ka) (nin0)))))
  have P21 := (P20.trans K21 (allS (Or.inl (List.mem_of_getElem? (i := 0) rfl)) (allS (Or.inl (List.mem_of_getElem? (i := 2) rfl)) (allS (Or.inl (List.mem_of_getElem? (i := 3) rfl)) (all0)))))
  show Go _ _ _ _ _ _ _ _ _ _ _ h21 0 0 (mkF m 90 #[.val (.ref b), .val (.int (Int32.ofNat ch))] []) _
  refine goto' K d_prog_2_method_2_90 (pc' := 103) (by decide) (by decide) ?_
  refine retV K rfl d_prog_2_method_2_103 (Nat.le_of_ble_eq_true rfl) (Nat.le_of_ble_eq_true rfl) ?_
  exact ⟨rfl, P21, Q21_E, Q21_F_act, Q21_F_heap, Q21_F_slot, Q21_F_count, Q21_F_gain, Q21_F_choices, Q21_VA, Q21_VH, Q21_VS⟩
set_option maxRecDepth 65536 in
set_option maxHeartbeats 40000000 in
theorem c_bumpU (l : Launch) (Z : State) (a0 : Array Value) (hw : ∀ d ∈ tables_1, d.before a0 Z = true) (ws : List Jvm.Cond) (b ka ha sa : Addr) (N n : Nat) (g : UInt64) (Al : List UInt64) (Hl : List Nat) (Sl : List Int32) (ch i : Nat) (h0 : Heap) (n0 : Nat) (Z0 : n0 ≤ h0.size) (hA : Al.length = N) (hH : Hl.length = N) (hS : Sl.length = N) (N0 : 0 < N) (N9 : N < 100) (hB : Bd N Hl) (hi : i < N) (hch : ch < N) (hnn : Jvm.Free.Fl.NoNaN64 (FP.dadd (Al.getD ch 0) g)) (hbg : ¬ FP.dcmp (FP.dadd (Al.getD ch 0) g) 6103021453049119613 = some .gt) (hsl : Sl.getD ch 0 = Int32.ofNat i) (E : Exa Z h0 b "com/example/sightline/sightline/checker/ByActivity") (F_act : Fld Z h0 b "com/example/sightline/sightline/checker/ByActivity" "activity" "[D" (.ref ka)) (F_heap : Fld Z h0 b "com/example/sightline/sightline/checker/ByActivity" "heap" "[I" (.ref ha)) (F_slot : Fld Z h0 b "com/example/sightline/sightline/checker/ByActivity" "slot" "[I" (.ref sa)) (F_count : Fld Z h0 b "com/example/sightline/sightline/checker/ByActivity" "count" "I" (.int (Int32.ofNat n))) (F_gain : Fld Z h0 b "com/example/sightline/sightline/checker/ByActivity" "gain" "D" (.double g)) (F_choices : Fld Z h0 b "com/example/sightline/sightline/checker/ByActivity" "choices" "I" (.int (Int32.ofNat N))) (VA : DV Z h0 ka Al) (VH : HV Z h0 ha Hl) (VS : IV Z h0 sa Sl) (ne_ka_b : ka ≠ b) (ne_ha_b : ha ≠ b) (ne_sa_b : sa ≠ b) (ne_ha_ka : ha ≠ ka) (ne_sa_ka : sa ≠ ka) (ne_sa_ha : sa ≠ ha) (ge_b : n0 ≤ b) (ge_ka : n0 ≤ ka) (ge_ha : n0 ≤ ha) (ge_sa : n0 ≤ sa) :
    Ctr l Z (⟨"com/example/sightline/sightline/checker/ByActivity", "bump", "(I)V"⟩ : MethodName) prog_2_method_2_code 2 none ws ({ frames := 2, cells := 0, slots := 0, locals := 28 } : Room) n0 #[(.ref b), (.int (Int32.ofNat ch))] h0 (fun v h => v = none ∧ Keep h0 h [b, ka, ha, sa] ∧ Exa Z h b "com/example/sightline/sightline/checker/ByActivity" ∧ Fld Z h b "com/example/sightline/sightline/checker/ByActivity" "activity" "[D" (.ref ka) ∧ Fld Z h b "com/example/sightline/sightline/checker/ByActivity" "heap" "[I" (.ref ha) ∧ Fld Z h b "com/example/sightline/sightline/checker/ByActivity" "slot" "[I" (.ref sa) ∧ Fld Z h b "com/example/sightline/sightline/checker/ByActivity" "count" "I" (.int (Int32.ofNat n)) ∧ Fld Z h b "com/example/sightline/sightline/checker/ByActivity" "gain" "D" (.double g) ∧ Fld Z h b "com/example/sightline/sightline/checker/ByActivity" "choices" "I" (.int (Int32.ofNat N)) ∧ DV Z h ka (Al.set ch (FP.dadd (Al.getD ch 0) g)) ∧ HV Z h ha (upB (Al.set ch (FP.dadd (Al.getD ch 0) g)) (Hl.getD i 0) Hl Sl i).1 ∧ IV Z h sa (upB (Al.set ch (FP.dadd (Al.getD ch 0) g)) (Hl.getD i 0) Hl Sl i).2) := by
  refine ctr (own := "com/example/sightline/sightline/checker/ByActivity") (nm := "bump") rfl rfl (Ls := #[.val (.ref b), .val (.int (Int32.ofNat ch))]) (plainFor_of_name pn0) (fun m => by first | (simp [entryFrame, mkF, argsToLocals, Value.category]; done) | rfl) ?_
  intro p e s m below meth c K eh
  have P0 := Keep.refl h0 [b, ka, ha, sa]
  refine Jvm.OwnWp.aloadN K d_prog_2_method_2_0 rfl rfl (pc' := 1) rfl ?_
  refine Jvm.OwnWp.getf K (wd24 hw) Via.refl F_act d_prog_2_method_2_1 (pc' := 4) rfl ?_
  refine nonnullY K d_prog_2_method_2_4 (pc' := 45) (by decide) (by decide) ?_
  refine Jvm.OwnWp.aloadN K d_prog_2_method_2_45 rfl rfl (pc' := 46) rfl ?_
  refine Jvm.OwnWp.getf K (wd24 hw) Via.refl F_act d_prog_2_method_2_46 (pc' := 49) rfl ?_
  refine Jvm.OwnWp.iloadN K d_prog_2_method_2_49 rfl (pc' := 50) rfl ?_
  refine Jvm.OwnWp.dup2 K d_prog_2_method_2_50 rfl rfl (pc' := 51) rfl ?_
  refine daload K (i := ch) VA (o_int (by omega)) (mapAt (getDAt (d := 0) (by omega))) d_prog_2_method_2_51 (pc' := 52) rfl ?_
  refine Jvm.OwnWp.aloadN K d_prog_2_method_2_52 rfl rfl (pc' := 53) rfl ?_
  refine Jvm.OwnWp.getf K (wd9 hw) Via.refl F_gain d_prog_2_method_2_53 (pc' := 56) rfl ?_
  refine Jvm.OwnWp.dadd K d_prog_2_method_2_56 hnn (pc' := 57) rfl ?_
  refine dastore K (i := ch) VA (o_int (by omega)) (mapLt (by omega)) ge_ka d_prog_2_method_2_57 (pc' := 58) rfl ?_
  intro h22 W22
  have F22_activity_b := (Fld.other W22 F_act (Or.inl (Ne.symm ne_ka_b)))
  have F22_heap_b := (Fld.other W22 F_heap (Or.inl (Ne.symm ne_ka_b)))
  have F22_slot_b := (Fld.other W22 F_slot (Or.inl (Ne.symm ne_ka_b)))
  have F22_count_b := (Fld.other W22 F_count (Or.inl (Ne.symm ne_ka_b)))
  have F22_gain_b := (Fld.other W22 F_gain (Or.inl (Ne.symm ne_ka_b)))
  have F22_choices_b := (Fld.other W22 F_choices (Or.inl (Ne.symm ne_ka_b)))
  have X22_b := (Exa.wr W22 E)
  have V22_ha := (VH.other W22 ne_ha_ka)
  have V22_sa := (VS.other W22 ne_sa_ka)
  have P22 := (P0.wr W22 (Or.inl (List.mem_of_getElem? (i := 1) rfl)))
  have V22_ka := VA.set W22
  refine Jvm.OwnWp.aloadN K d_prog_2_method_2_58 rfl rfl (pc' := 59) rfl ?_
  refine Jvm.OwnWp.getf K (wd24 hw) Via.refl F22_activity_b d_prog_2_method_2_59 (pc' := 62) rfl ?_
  refine Jvm.OwnWp.iloadN K d_prog_2_method_2_62 rfl (pc' := 63) rfl ?_
  refine daload K (i := ch) V22_ka (o_int (by omega)) (mapAt (by rw [List.getElem?_set_self (by omega)])) d_prog_2_method_2_63 (pc' := 64) rfl ?_
  refine Jvm.OwnWp.ldc2D K (wd35 hw) d_prog_2_method_2_64 (pc' := 67) rfl ?_
  refine Jvm.OwnWp.dcmp K d_prog_2_method_2_67 (pc' := 68) rfl ?_
  refine ifY K d_prog_2_method_2_68 (dd_l_le_t hbg) (pc' := 75) (by decide) (by decide) ?_
  refine Jvm.OwnWp.aloadN K d_prog_2_method_2_75 rfl rfl (pc' := 76) rfl ?_
  refine Jvm.OwnWp.getf K (wd29 hw) Via.refl F22_slot_b d_prog_2_method_2_76 (pc' := 79) rfl ?_
  refine Jvm.OwnWp.iloadN K d_prog_2_method_2_79 rfl (pc' := 80) rfl ?_
  refine iaload K (i := ch) V22_sa (o_int (by omega)) (mapAt (by rw [getDAt (d := 0) (by omega), hsl])) d_prog_2_method_2_80 (pc' := 81) rfl ?_
  refine Jvm.OwnWp.iconst K (-1 : Int32) d_prog_2_method_2_81 (by decide) (pc' := 82) rfl ?_
  refine icY K d_prog_2_method_2_82 (XT.ii_ne_t (o_nm1 (by omega))) (pc' := 93) (by decide) (by decide) ?_
  refine Jvm.OwnWp.aloadN K d_prog_2_method_2_93 rfl rfl (pc' := 94) rfl ?_
  refine Jvm.OwnWp.aloadN K d_prog_2_method_2_94 rfl rfl (pc' := 95) rfl ?_
  refine Jvm.OwnWp.getf K (wd29 hw) Via.refl F22_slot_b d_prog_2_method_2_95 (pc' := 98) rfl ?_
  refine Jvm.OwnWp.iloadN K d_prog_2_method_2_98 rfl (pc' := 99) rfl ?_
  refine iaload K (i := ch) V22_sa (o_int (by omega)) (mapAt (by rw [getDAt (d := 0) (by omega), hsl])) d_prog_2_method_2_99 (pc' := 100) rfl ?_
  refine callPriv K (y := (⟨"com/example/sightline/sightline/checker/ByActivity", "up", "(I)V"⟩ : MethodName)) (b := b) (argsL := [(.int (Int32.ofNat i))]) (S := []) (wd47 hw) (wd48 hw) (wd49 hw) (wd1 hw) (wd2 hw) (wd50 hw) (by decide) X22_b (c_up l Z a0 hw [] b ka ha sa N i (Al.set ch (FP.dadd (Al.getD ch 0) g)) Hl Sl h22 n0 (Nat.le_trans Z0 P22.1) (by rw [List.length_set]; exact hA) hH hS N0 N9 hB hi X22_b F22_activity_b F22_heap_b F22_slot_b V22_ka V22_ha V22_sa ne_sa_ha ne_ha_ka ne_sa_ka ne_ha_b ne_sa_b ge_ha ge_sa) (lenOf pd1 rfl) d_prog_2_method_2_100 rfl (Nat.le_of_ble_eq_true rfl) (Nat.le_of_ble_eq_true rfl) (Nat.le_of_ble_eq_true rfl) (Nat.le_of_ble_eq_true rfl) rfl (pc' := 103) rfl ?_
  rintro v23 h23 ⟨rfl, K23, Q23_VH, Q23_VS⟩
  have F23_activity_b := (Fld.keep F22_activity_b K23 (ninS (Ne.symm ne_ha_b) (ninS (Ne.symm ne_sa_b) (nin0))))
  have F23_heap_b := (Fld.keep F22_heap_b K23 (ninS (Ne.symm ne_ha_b) (ninS (Ne.symm ne_sa_b) (nin0))))
  have F23_slot_b := (Fld.keep F22_slot_b K23 (ninS (Ne.symm ne_ha_b) (ninS (Ne.symm ne_sa_b) (nin0))))
  have F23_count_b := (Fld.keep F22_count_b K23 (ninS (Ne.symm ne_ha_b) (ninS (Ne.symm ne_sa_b) (nin0))))
  have F23_gain_b := (Fld.keep F22_gain_b K23 (ninS (Ne.symm ne_ha_b) (ninS (Ne.symm ne_sa_b) (nin0))))
  have F23_choices_b := (Fld.keep F22_choices_b K23 (ninS (Ne.symm ne_ha_b) (ninS (Ne.symm ne_sa_b) (nin0))))
  have X23_b := (Exa.keep X22_b K23)
  have V23_ka := (V22_ka.keep K23 (ninS (Ne.symm ne_ha_ka) (ninS (Ne.symm ne_sa_ka) (nin0))))
  have P23 := (P22.trans K23 (allS (Or.inl (List.mem_of_getElem? (i := 2) rfl)) (allS (Or.inl (List.mem_of_getElem? (i := 3) rfl)) (all0))))
  show Go _ _ _ _ _ _ _ _ _ _ _ h23 0 0 (mkF m 103 #[.val (.ref b), .val (.int (Int32.ofNat ch))] []) _
  refine retV K rfl d_prog_2_method_2_103 (Nat.le_of_ble_eq_true rfl) (Nat.le_of_ble_eq_true rfl) ?_
  exact ⟨rfl, P23, X23_b, F23_activity_b, F23_heap_b, F23_slot_b, F23_count_b, F23_gain_b, F23_choices_b, V23_ka, Q23_VH, Q23_VS⟩
set_option maxRecDepth 65536 in
set_option maxHeartbeats 40000000 in
theorem c_bump0 (l : Launch) (Z : State) (a0 : Array Value) (hw : ∀ d ∈ tables_1, d.before a0 Z = true) (ws : List Jvm.Cond) (b : Addr) (N ch : Nat) (g : UInt64) (h0 : Heap) (n0 : Nat) (Z0 : n0 ≤ h0.size) (N0 : 0 < N) (Nc : N ≤ 5) (hch : ch < N) (hnn : Jvm.Free.Fl.NoNaN64 (FP.dadd ((List.replicate N 0).getD ch 0) g)) (hbg : ¬ FP.dcmp (FP.dadd ((List.replicate N 0).getD ch 0) g) 6103021453049119613 = some .gt) (E : Exa Z h0 b "com/example/sightline/sightline/checker/ByActivity") (G3 : Fld Z h0 b "com/example/sightline/sightline/checker/ByActivity" "activity" "[D" .null) (G4 : Fld Z h0 b "com/example/sightline/sightline/checker/ByActivity" "heap" "[I" .null) (G5 : Fld Z h0 b "com/example/sightline/sightline/checker/ByActivity" "slot" "[I" .null) (G6 : Fld Z h0 b "com/example/sightline/sightline/checker/ByActivity" "count" "I" (.int (Int32.ofNat 0))) (F_gain : Fld Z h0 b "com/example/sightline/sightline/checker/ByActivity" "gain" "D" (.double g)) (F_choices : Fld Z h0 b "com/example/sightline/sightline/checker/ByActivity" "choices" "I" (.int (Int32.ofNat N))) (ge_b : n0 ≤ b) :
    Ctr l Z (⟨"com/example/sightline/sightline/checker/ByActivity", "bump", "(I)V"⟩ : MethodName) prog_2_method_2_code 2 none ws ({ frames := 3, cells := 3, slots := 15, locals := 41 } : Room) n0 #[(.ref b), (.int (Int32.ofNat ch))] h0 (fun v h => v = none ∧ Keep h0 h [b] ∧ ∃ ka ha sa : Addr, h0.size ≤ ka ∧ h0.size ≤ ha ∧ h0.size ≤ sa ∧ ha ≠ ka ∧ sa ≠ ka ∧ sa ≠ ha ∧ Exa Z h b "com/example/sightline/sightline/checker/ByActivity" ∧ Fld Z h b "com/example/sightline/sightline/checker/ByActivity" "activity" "[D" (.ref ka) ∧ Fld Z h b "com/example/sightline/sightline/checker/ByActivity" "heap" "[I" (.ref ha) ∧ Fld Z h b "com/example/sightline/sightline/checker/ByActivity" "slot" "[I" (.ref sa) ∧ Fld Z h b "com/example/sightline/sightline/checker/ByActivity" "count" "I" (.int (Int32.ofNat 1)) ∧ Fld Z h b "com/example/sightline/sightline/checker/ByActivity" "gain" "D" (.double g) ∧ Fld Z h b "com/example/sightline/sightline/checker/ByActivity" "choices" "I" (.int (Int32.ofNat N)) ∧ DV Z h ka ((List.replicate N 0).set ch (FP.dadd ((List.replicate N 0).getD ch 0) g)) ∧ HV Z h ha (pushB ((List.replicate N 0).set ch (FP.dadd ((List.replicate N 0).getD ch 0) g)) ch (List.replicate N 0) (List.replicate N (-1)) 0).1 ∧ IV Z h sa (pushB ((List.replicate N 0).set ch (FP.dadd ((List.replicate N 0).getD ch 0) g)) ch (List.replicate N 0) (List.replicate N (-1)) 0).2) := by
  refine ctr (own := "com/example/sightline/sightline/checker/ByActivity") (nm := "bump") rfl rfl (Ls := #[.val (.ref b), .val (.int (Int32.ofNat ch))]) (plainFor_of_name pn0) (fun m => by first | (simp [entryFrame, mkF, argsToLocals, Value.category]; done) | rfl) ?_
  intro p e s m below meth c K eh
  have P0 := Keep.refl h0 [b]
  have N9 : N < 100 := by omega
  refine Jvm.OwnWp.aloadN K d_prog_2_method_2_0 rfl rfl (pc' := 1) rfl ?_
  refine Jvm.OwnWp.getf K (wd24 hw) Via.refl G3 d_prog_2_method_2_1 (pc' := 4) rfl ?_
  refine nonnullN K d_prog_2_method_2_4 (pc' := 7) rfl ?_
  refine Jvm.OwnWp.aloadN K d_prog_2_method_2_7 rfl rfl (pc' := 8) rfl ?_
  refine Jvm.OwnWp.aloadN K d_prog_2_method_2_8 rfl rfl (pc' := 9) rfl ?_
  refine Jvm.OwnWp.getf K (wd11 hw) Via.refl F_choices d_prog_2_method_2_9 (pc' := 12) rfl ?_
  refine newArrC K (aty := ArrayType.double) (N := N) (cap := 5) (wd26 hw) (o_int (by omega)) Nc (by decide) d_prog_2_method_2_12 (Nat.le_of_ble_eq_true rfl) (Nat.le_of_ble_eq_true rfl) (pc' := 14) rfl ?_
  intro h24 ka g24 E24 A24
  have ne_b_ka : b ≠ ka := Nat.ne_of_lt (Nat.lt_of_lt_of_eq (Exa.lt E) g24.symm)
  have lt_ka : h0.size ≤ ka := Nat.le_trans P0.1 (Nat.le_of_eq g24.symm)
  have ge_ka : n0 ≤ ka := Nat.le_trans Z0 lt_ka
  have F24_activity_b := (Fld.ext E24 G3)
  have F24_heap_b := (Fld.ext E24 G4)
  have F24_slot_b := (Fld.ext E24 G5)
  have F24_count_b := (Fld.ext E24 G6)
  have F24_gain_b := (Fld.ext E24 F_gain)
  have F24_choices_b := (Fld.ext E24 F_choices)
  have X24_b := (Exa.ext E24 E)
  have P24 := (P0.ext E24)
  have A24 := DV.new A24
  refine putf K (wd24 hw) Via.refl F24_activity_b X24_b (Or.inl (wd25 hw)) (wd1 hw) (ty := (.array .double)) (by decide) rfl rfl ge_b d_prog_2_method_2_14 (pc' := 17) rfl ?_
  intro h25 W25
  have F25_heap_b := (Fld.other W25 F24_heap_b (Or.inr (sn_ByActivity_heap_activity hw)))
  have F25_slot_b := (Fld.other W25 F24_slot_b (Or.inr (sn_ByActivity_slot_activity hw)))
  have F25_count_b := (Fld.other W25 F24_count_b (Or.inr (sn_ByActivity_count_activity hw)))
  have F25_gain_b := (Fld.other W25 F24_gain_b (Or.inr (sn_ByActivity_gain_activity hw)))
  have F25_choices_b := (Fld.other W25 F24_choices_b (Or.inr (sn_ByActivity_choices_activity hw)))
  have X25_b := (Exa.wr W25 X24_b)
  have V25_ka := (A24.other W25 (Ne.symm ne_b_ka))
  have P25 := (P24.wr W25 (Or.inl (List.mem_of_getElem? (i := 0) rfl)))
  have F25_activity_b := Fld.same W25 F24_activity_b
  refine Jvm.OwnWp.aloadN K d_prog_2_method_2_17 rfl rfl (pc' := 18) rfl ?_
  refine Jvm.OwnWp.aloadN K d_prog_2_method_2_18 rfl rfl (pc' := 19) rfl ?_
  refine Jvm.OwnWp.getf K (wd11 hw) Via.refl F25_choices_b d_prog_2_method_2_19 (pc' := 22) rfl ?_
  refine newArrC K (aty := ArrayType.int) (N := N) (cap := 5) (wd13 hw) (o_int (by omega)) Nc (by decide) d_prog_2_method_2_22 (Nat.le_of_ble_eq_true rfl) (Nat.le_of_ble_eq_true rfl) (pc' := 24) rfl ?_
  intro h26 ha g26 E26 A26
  have ne_b_ha : b ≠ ha := Nat.ne_of_lt (Nat.lt_of_lt_of_eq (Exa.lt X25_b) g26.symm)
  have ne_ka_ha : ka ≠ ha := Nat.ne_of_lt (Nat.lt_of_lt_of_eq (V25_ka.lt) g26.symm)
  have lt_ha : h0.size ≤ ha := Nat.le_trans P25.1 (Nat.le_of_eq g26.symm)
  have ge_ha : n0 ≤ ha := Nat.le_trans Z0 lt_ha
  have F26_activity_b := (Fld.ext E26 F25_activity_b)
  have F26_heap_b := (Fld.ext E26 F25_heap_b)
  have F26_slot_b := (Fld.ext E26 F25_slot_b)
  have F26_count_b := (Fld.ext E26 F25_count_b)
  have F26_gain_b := (Fld.ext E26 F25_gain_b)
  have F26_choices_b := (Fld.ext E26 F25_choices_b)
  have X26_b := (Exa.ext E26 X25_b)
  have V26_ka := (V25_ka.ext E26)
  have P26 := (P25.ext E26)
  have A26 := HV.new A26
  refine putf K (wd27 hw) Via.refl F26_heap_b X26_b (Or.inl (wd28 hw)) (wd1 hw) (ty := (.array .int)) (by decide) rfl rfl ge_b d_prog_2_method_2_24 (pc' := 27) rfl ?_
  intro h27 W27
  have F27_activity_b := (Fld.other W27 F26_activity_b (Or.inr (sn_ByActivity_activity_heap hw)))
  have F27_slot_b := (Fld.other W27 F26_slot_b (Or.inr (sn_ByActivity_slot_heap hw)))
  have F27_count_b := (Fld.other W27 F26_count_b (Or.inr (sn_ByActivity_count_heap hw)))
  have F27_gain_b := (Fld.other W27 F26_gain_b (Or.inr (sn_ByActivity_gain_heap hw)))
  have F27_choices_b := (Fld.other W27 F26_choices_b (Or.inr (sn_ByActivity_choices_heap hw)))
  have X27_b := (Exa.wr W27 X26_b)
  have V27_ka := (V26_ka.other W27 (Ne.symm ne_b_ka))
  have V27_ha := (A26.other W27 (Ne.symm ne_b_ha))
  have P27 := (P26.wr W27 (Or.inl (List.mem_of_getElem? (i := 0) rfl)))
  have F27_heap_b := Fld.same W27 F26_heap_b
  refine Jvm.OwnWp.aloadN K d_prog_2_method_2_27 rfl rfl (pc' := 28) rfl ?_
  refine Jvm.OwnWp.aloadN K d_prog_2_method_2_28 rfl rfl (pc' := 29) rfl ?_
  refine Jvm.OwnWp.getf K (wd11 hw) Via.refl F27_choices_b d_prog_2_method_2_29 (pc' := 32) rfl ?_
  refine newArrC K (aty := ArrayType.int) (N := N) (cap := 5) (wd13 hw) (o_int (by omega)) Nc (by decide) d_prog_2_method_2_32 (Nat.le_of_ble_eq_true rfl) (Nat.le_of_ble_eq_true rfl) (pc' := 34) rfl ?_
  intro h28 sa g28 E28 A28
  have ne_b_sa : b ≠ sa := Nat.ne_of_lt (Nat.lt_of_lt_of_eq (Exa.lt X27_b) g28.symm)
  have ne_ka_sa : ka ≠ sa := Nat.ne_of_lt (Nat.lt_of_lt_of_eq (V27_ka.lt) g28.symm)
  have ne_ha_sa : ha ≠ sa := Nat.ne_of_lt (Nat.lt_of_lt_of_eq (V27_ha.lt) g28.symm)
  have lt_sa : h0.size ≤ sa := Nat.le_trans P27.1 (Nat.le_of_eq g28.symm)
  have ge_sa : n0 ≤ sa := Nat.le_trans Z0 lt_sa
  have F28_activity_b := (Fld.ext E28 F27_activity_b)
  have F28_heap_b := (Fld.ext E28 F27_heap_b)
  have F28_slot_b := (Fld.ext E28 F27_slot_b)
  have F28_count_b := (Fld.ext E28 F27_count_b)
  have F28_gain_b := (Fld.ext E28 F27_gain_b)
  have F28_choices_b := (Fld.ext E28 F27_choices_b)
  have X28_b := (Exa.ext E28 X27_b)
  have V28_ka := (V27_ka.ext E28)
  have V28_ha := (V27_ha.ext E28)
  have P28 := (P27.ext E28)
  have A28 := IV.new A28
  refine putf K (wd29 hw) Via.refl F28_slot_b X28_b (Or.inl (wd30 hw)) (wd1 hw) (ty := (.array .int)) (by decide) rfl rfl ge_b d_prog_2_method_2_34 (pc' := 37) rfl ?_
  intro h29 W29
  have F29_activity_b := (Fld.other W29 F28_activity_b (Or.inr (sn_ByActivity_activity_slot hw)))
  have F29_heap_b := (Fld.other W29 F28_heap_b (Or.inr (sn_ByActivity_heap_slot hw)))
  have F29_count_b := (Fld.other W29 F28_count_b (Or.inr (sn_ByActivity_count_slot hw)))
  have F29_gain_b := (Fld.other W29 F28_gain_b (Or.inr (sn_ByActivity_gain_slot hw)))
  have F29_choices_b := (Fld.other W29 F28_choices_b (Or.inr (sn_ByActivity_choices_slot hw)))
  have X29_b := (Exa.wr W29 X28_b)
  have V29_ka := (V28_ka.other W29 (Ne.symm ne_b_ka))
  have V29_ha := (V28_ha.other W29 (Ne.symm ne_b_ha))
  have V29_sa := (A28.other W29 (Ne.symm ne_b_sa))
  have P29 := (P28.wr W29 (Or.inl (List.mem_of_getElem? (i := 0) rfl)))
  have F29_slot_b := Fld.same W29 F28_slot_b
  refine Jvm.OwnWp.aloadN K d_prog_2_method_2_37 rfl rfl (pc' := 38) rfl ?_
  refine Jvm.OwnWp.getf K (wd29 hw) Via.refl F29_slot_b d_prog_2_method_2_38 (pc' := 41) rfl ?_
  refine Jvm.OwnWp.iconst K (-1 : Int32) d_prog_2_method_2_41 (by decide) (pc' := 42) rfl ?_
  refine callStatic K (y := (⟨"java/util/Arrays", "fill", "([II)V"⟩ : MethodName)) (argsL := [(.ref sa), (.int (-1 : Int32))]) (S := []) (wd31 hw) (wd32 hw) (wd33 hw) (wd34 hw) (by decide) (c_fill l Z a0 hw [] sa (-1) N (List.replicate N 0) h29 n0 (Nat.le_trans Z0 P29.1) (List.length_replicate ..) N9 V29_sa ge_sa) (lenOf pd2 rfl) d_prog_2_method_2_42 rfl (Nat.le_of_ble_eq_true rfl) (Nat.le_of_ble_eq_true rfl) (Nat.le_of_ble_eq_true rfl) (Nat.le_of_ble_eq_true rfl) rfl (pc' := 45) rfl ?_
  rintro v30 h30 ⟨rfl, K30, Q30_VS⟩
  have F30_activity_b := (Fld.keep F29_activity_b K30 (ninS ne_b_sa (nin0)))
  have F30_heap_b := (Fld.keep F29_heap_b K30 (ninS ne_b_sa (nin0)))
  have F30_slot_b := (Fld.keep F29_slot_b K30 (ninS ne_b_sa (nin0)))
  have F30_count_b := (Fld.keep F29_count_b K30 (ninS ne_b_sa (nin0)))
  have F30_gain_b := (Fld.keep F29_gain_b K30 (ninS ne_b_sa (nin0)))
  have F30_choices_b := (Fld.keep F29_choices_b K30 (ninS ne_b_sa (nin0)))
  have X30_b := (Exa.keep X29_b K30)
  have V30_ka := (V29_ka.keep K30 (ninS ne_ka_sa (nin0)))
  have V30_ha := (V29_ha.keep K30 (ninS ne_ha_sa (nin0)))
  have P30 := (P29.trans K30 (allS (Or.inr lt_sa) (all0)))
  show Go _ _ _ _ _ _ _ _ _ _ _ h30 3 15 (mkF m 45 #[.val (.ref b), .val (.int (Int32.ofNat ch))] []) _
  have hA : (List.replicate N (0 : UInt64)).length = N := List.length_replicate ..
  have hH : (List.replicate N (0 : Nat)).length = N := List.length_replicate ..
  have hS : (List.replicate N (-1 : Int32)).length = N := List.length_replicate ..
  have hB : Bd N (List.replicate N 0) := fun j => by
    rw [List.getD_eq_getElem?_getD, List.getElem?_replicate]; split <;> simpa using N0
  have hsl : (List.replicate N (-1 : Int32)).getD ch 0 = -1 := by rw [List.getD_eq_getElem?_getD, List.getElem?_replicate, if_pos hch]; rfl
  refine Jvm.OwnWp.aloadN K d_prog_2_method_2_45 rfl rfl (pc' := 46) rfl ?_
  refine Jvm.OwnWp.getf K (wd24 hw) Via.refl F30_activity_b d_prog_2_method_2_46 (pc' := 49) rfl ?_
  refine Jvm.OwnWp.iloadN K d_prog_2_method_2_49 rfl (pc' := 50) rfl ?_
  refine Jvm.OwnWp.dup2 K d_prog_2_method_2_50 rfl rfl (pc' := 51) rfl ?_
  refine daload K (i := ch) V30_ka (o_int (by omega)) (mapAt (getDAt (d := 0) (by omega))) d_prog_2_method_2_51 (pc' := 52) rfl ?_
  refine Jvm.OwnWp.aloadN K d_prog_2_method_2_52 rfl rfl (pc' := 53) rfl ?_
  refine Jvm.OwnWp.getf K (wd9 hw) Via.refl F30_gain_b d_prog_2_method_2_53 (pc' := 56) rfl ?_
  refine Jvm.OwnWp.dadd K d_prog_2_method_2_56 hnn (pc' := 57) rfl ?_
  refine dastore K (i := ch) V30_ka (o_int (by omega)) (mapLt (by omega)) ge_ka d_prog_2_method_2_57 (pc' := 58) rfl ?_
  intro h31 W31
  have F31_activity_b := (Fld.other W31 F30_activity_b (Or.inl ne_b_ka))
  have F31_heap_b := (Fld.other W31 F30_heap_b (Or.inl ne_b_ka))
  have F31_slot_b := (Fld.other W31 F30_slot_b (Or.inl ne_b_ka))
  have F31_count_b := (Fld.other W31 F30_count_b (Or.inl ne_b_ka))
  have F31_gain_b := (Fld.other W31 F30_gain_b (Or.inl ne_b_ka))
  have F31_choices_b := (Fld.other W31 F30_choices_b (Or.inl ne_b_ka))
  have X31_b := (Exa.wr W31 X30_b)
  have V31_ha := (V30_ha.other W31 (Ne.symm ne_ka_ha))
  have V31_sa := (Q30_VS.other W31 (Ne.symm ne_ka_sa))
  have P31 := (P30.wr W31 (Or.inr lt_ka))
  have V31_ka := V30_ka.set W31
  refine Jvm.OwnWp.aloadN K d_prog_2_method_2_58 rfl rfl (pc' := 59) rfl ?_
  refine Jvm.OwnWp.getf K (wd24 hw) Via.refl F31_activity_b d_prog_2_method_2_59 (pc' := 62) rfl ?_
  refine Jvm.OwnWp.iloadN K d_prog_2_method_2_62 rfl (pc' := 63) rfl ?_
  refine daload K (i := ch) V31_ka (o_int (by omega)) (mapAt (by rw [List.getElem?_set_self (by omega)])) d_prog_2_method_2_63 (pc' := 64) rfl ?_
  refine Jvm.OwnWp.ldc2D K (wd35 hw) d_prog_2_method_2_64 (pc' := 67) rfl ?_
  refine Jvm.OwnWp.dcmp K d_prog_2_method_2_67 (pc' := 68) rfl ?_
  refine ifY K d_prog_2_method_2_68 (dd_l_le_t hbg) (pc' := 75) (by decide) (by decide) ?_
  refine Jvm.OwnWp.aloadN K d_prog_2_method_2_75 rfl rfl (pc' := 76) rfl ?_
  refine Jvm.OwnWp.getf K (wd29 hw) Via.refl F31_slot_b d_prog_2_method_2_76 (pc' := 79) rfl ?_
  refine Jvm.OwnWp.iloadN K d_prog_2_method_2_79 rfl (pc' := 80) rfl ?_
  refine iaload K (i := ch) V31_sa (o_int (by omega)) (mapAt (by rw [getDAt (d := 0) (by omega), hsl])) d_prog_2_method_2_80 (pc' := 81) rfl ?_
  refine Jvm.OwnWp.iconst K (-1 : Int32) d_prog_2_method_2_81 (by decide) (pc' := 82) rfl ?_
  refine icN K d_prog_2_method_2_82 (by decide) (pc' := 85) rfl ?_
  refine Jvm.OwnWp.aloadN K d_prog_2_method_2_85 rfl rfl (pc' := 86) rfl ?_
  refine Jvm.OwnWp.iloadN K d_prog_2_method_2_86 rfl (pc' := 87) rfl ?_
  refine callVirt K (y := (⟨"com/example/sightline/sightline/checker/ByActivity", "push", "(I)V"⟩ : MethodName)) (b := b) (argsL := [(.int (Int32.ofNat ch))]) (S := []) (wd36 hw) (wd37 hw) (wd39 hw) (wd38 hw) (wd2 hw) (wd40 hw) (by decide) X31_b (c_push l Z a0 hw [] b ka ha sa N 0 g ((List.replicate N 0).set ch (FP.dadd ((List.replicate N 0).getD ch 0) g)) (List.replicate N 0) (List.replicate N (-1)) ch h31 n0 (Nat.le_trans Z0 P31.1) (by rw [List.length_set]; exact hA) hH hS N0 N9 hB (by omega) hch X31_b F31_activity_b F31_heap_b F31_slot_b F31_count_b F31_gain_b F31_choices_b V31_ka V31_ha V31_sa (Ne.symm ne_b_ka) (Ne.symm ne_b_ha) (Ne.symm ne_b_sa) (Ne.symm ne_ka_ha) (Ne.symm ne_ka_sa) (Ne.symm ne_ha_sa) ge_b ge_ka ge_ha ge_sa) (lenOf pd1 rfl) d_prog_2_method_2_87 rfl (Nat.le_of_ble_eq_true rfl) (Nat.le_of_ble_eq_true rfl) (Nat.le_of_ble_eq_true rfl) (Nat.le_of_ble_eq_true rfl) rfl (pc' := 90) rfl ?_
  rintro v32 h32 ⟨rfl, K32, Q32_E, Q32_F_act, Q32_F_heap, Q32_F_slot, Q32_F_count, Q32_F_gain, Q32_F_choices, Q32_VA, Q32_VH, Q32_VS⟩
  have X32_b := (Exa.keep X31_b K32)
  have V32_ka := (V31_ka.keep K32 (ninS (Ne.symm ne_b_ka) (ninS ne_ka_ha (ninS ne_ka_sa (nin0)))))
  have P32 := (P31.trans K32 (allS (Or.inl (List.mem_of_getElem? (i := 0) rfl)) (allS (Or.inr lt_ha) (allS (Or.inr lt_sa) (all0)))))
  show Go _ _ _ _ _ _ _ _ _ _ _ h32 3 15 (mkF m 90 #[.val (.ref b), .val (.int (Int32.ofNat ch))] []) _
  refine goto' K d_prog_2_method_2_90 (pc' := 103) (by decide) (by decide) ?_
  refine retV K rfl d_prog_2_method_2_103 (Nat.le_of_ble_eq_true rfl) (Nat.le_of_ble_eq_true rfl) ?_
  exact ⟨rfl, P32, ka, ha, sa, lt_ka, lt_ha, lt_sa, (Ne.symm ne_ka_ha), (Ne.symm ne_ka_sa), (Ne.symm ne_ha_sa), Q32_E, Q32_F_act, Q32_F_heap, Q32_F_slot, Q32_F_count, Q32_F_gain, Q32_F_choices, Q32_VA, Q32_VH, Q32_VS⟩
def In5 (I : List Int32) (T : List Nat) : Prop := I.length = 5 ∧ ∀ j, j < 5 → I.getD j 0 = if j ∈ T then 1 else 0
theorem in5_add {I : List Int32} {T T' : List Nat} {c : Nat} (h : In5 I T) (hc : c < 5) (hT : ∀ j, j ∈ T' ↔ j = c ∨ j ∈ T) : In5 (I.set c 1) T' := by
  refine ⟨by rw [List.length_set]; exact h.1, fun j hj => ?_⟩
  rw [Jvm.OwnHeap.gs (by rw [h.1]; exact hc)]
  by_cases e : j = c
  · rw [if_pos e, if_pos ((hT j).mpr (Or.inl e))]
  · rw [if_neg e, h.2 j hj]
    by_cases m : j ∈ T
    · rw [if_pos m, if_pos ((hT j).mpr (Or.inr m))]
    · rw [if_neg m, if_neg (fun q => ((hT j).mp q).elim e m)]
theorem in5_del {I : List Int32} {T : List Nat} {c : Nat} (h : In5 I T) (hc : c < 5) (nd : T.Nodup) : In5 (I.set c 0) (T.erase c) := by
  refine ⟨by rw [List.length_set]; exact h.1, fun j hj => ?_⟩
  rw [Jvm.OwnHeap.gs (by rw [h.1]; exact hc)]
  by_cases e : j = c
  · rw [if_pos e, if_neg (fun q => ((List.Nodup.mem_erase_iff nd).mp q).1 e)]
  · rw [if_neg e, h.2 j hj]
    by_cases m : j ∈ T
    · rw [if_pos m, if_pos ((List.Nodup.mem_erase_iff nd).mpr ⟨e, m⟩)]
    · rw [if_neg m, if_neg (fun q => m ((List.Nodup.mem_erase_iff nd).mp q).2)]
theorem in5_z {I : List Int32} {T : List Nat} {c : Nat} (h : In5 I T) (hc : c < 5) : I.getD c 0 = 0 ↔ c ∉ T := by
  rw [h.2 c hc]
  by_cases m : c ∈ T
  · rw [if_pos m]; exact ⟨fun q => absurd q (by decide), fun q => absurd m q⟩
  · rw [if_neg m]; exact ⟨fun _ => m, fun _ => rfl⟩
theorem own_pig : ∀ (N : Nat) (L : List Nat), L.Nodup → (∀ x ∈ L, x < N) → L.length ≤ N
  | 0, L, _, h => by
    match L, h with
    | [], _ => exact Nat.le_refl _
    | x :: L, h => exact absurd (h x (by simp)) (Nat.not_lt_zero _)
  | N + 1, L, nd, h => by
    have := own_pig N (L.erase N) (nd.erase N) (fun x hx => by
      obtain ⟨a1, a2⟩ := (List.Nodup.mem_erase_iff nd).mp hx
      have := h x a2; omega)
    rw [List.length_erase] at this
    split at this <;> omega
theorem inv_lt {N B n : Nat} {q T : List Nat} {A : List UInt64} {H : List Nat} {S : List Int32} (h : Inv N B n q T A H S) {x : Nat} (hx : x ∈ T) : x < N := by
  obtain ⟨i, hi, e⟩ := (memTake (by rw [h.wf.1]; exact h.wf.2.2.1)).mp (h.pm.mem_iff.mpr hx)
  rw [← e]; exact h.wf.2.2.2.1 i
theorem inv_room {N B n c : Nat} {q T : List Nat} {A : List UInt64} {H : List Nat} {S : List Int32} (N9 : N < 100) (h : Inv N B n q T A H S) (hc : c < N) (ht : c ∉ T) : n < N := by
  have := own_pig N (c :: T) (List.nodup_cons.mpr ⟨ht, inv_nodup N9 h⟩) (fun x hx => by
    rcases List.mem_cons.mp hx with e | e
    · omega
    · exact inv_lt h e)
  rw [List.length_cons, inv_len h] at this; omega
theorem inv_weak {N B n : Nat} {q T : List Nat} {A : List UInt64} {H : List Nat} {S : List Int32} (h : Inv N B n q T A H S) : Inv N (B + 1) n q T A H S := Inv.mk h.lA h.lq h.wf h.od h.di (fun j => Nat.le_succ_of_le (h.bd j)) h.pm
def JBas (Z : State) (h : Heap) (n0 : Nat) (b aa zz : Addr) (q T : List Nat) (I : List Int32) : Prop := Exa Z h b "com/example/sightline/sightline/checker/ByActivity" ∧ n0 ≤ b ∧ n0 ≤ aa ∧ n0 ≤ zz ∧ aa ≠ b ∧ zz ≠ b ∧ aa ≠ zz ∧ HV Z h aa q ∧ ZV Z h zz I ∧ Fld Z h b "com/example/sightline/sightline/checker/ByActivity" "gain" "D" (.double 4607182418800017408) ∧ Fld Z h b "com/example/sightline/sightline/checker/ByActivity" "choices" "I" (.int (Int32.ofNat 5)) ∧ In5 I T ∧ q.length = 5
def JUn (Z : State) (h : Heap) (b : Addr) (q T : List Nat) : Prop := Fld Z h b "com/example/sightline/sightline/checker/ByActivity" "activity" "[D" .null ∧ Fld Z h b "com/example/sightline/sightline/checker/ByActivity" "heap" "[I" .null ∧ Fld Z h b "com/example/sightline/sightline/checker/ByActivity" "slot" "[I" .null ∧ Fld Z h b "com/example/sightline/sightline/checker/ByActivity" "count" "I" (.int (Int32.ofNat 0)) ∧ T = [] ∧ q = List.replicate 5 0
def JBo (Z : State) (h : Heap) (n0 : Nat) (b aa zz : Addr) (B : Nat) (q T : List Nat) : Prop := ∃ (ka ha sa : Addr) (Al : List UInt64) (Hl : List Nat) (Sl : List Int32) (n : Nat), Fld Z h b "com/example/sightline/sightline/checker/ByActivity" "activity" "[D" (.ref ka) ∧ Fld Z h b "com/example/sightline/sightline/checker/ByActivity" "heap" "[I" (.ref ha) ∧ Fld Z h b "com/example/sightline/sightline/checker/ByActivity" "slot" "[I" (.ref sa) ∧ Fld Z h b "com/example/sightline/sightline/checker/ByActivity" "count" "I" (.int (Int32.ofNat n)) ∧ DV Z h ka Al ∧ HV Z h ha Hl ∧ IV Z h sa Sl ∧ ka ≠ b ∧ ha ≠ b ∧ sa ≠ b ∧ ha ≠ ka ∧ sa ≠ ka ∧ sa ≠ ha ∧ n0 ≤ ka ∧ n0 ≤ ha ∧ n0 ≤ sa ∧ aa ≠ ka ∧ aa ≠ ha ∧ aa ≠ sa ∧ zz ≠ ka ∧ zz ≠ ha ∧ zz ≠ sa ∧ Inv 5 B n q T Al Hl Sl
def JJ (f : Bool) (Z : State) (h : Heap) (n0 : Nat) (b aa zz : Addr) (B : Nat) (q T : List Nat) : Prop := ∃ I : List Int32, JBas Z h n0 b aa zz q T I ∧ ((f = false ∧ JUn Z h b q T) ∨ (f = true ∧ JBo Z h n0 b aa zz B q T))
theorem jj_weak {Z : State} {h : Heap} {n0 : Nat} {b aa zz : Addr} {B : Nat} {q T : List Nat} {f : Bool} (H : JJ f Z h n0 b aa zz B q T) : JJ f Z h n0 b aa zz (B + 1) q T := by
  obtain ⟨I, hb, hu | ⟨ef, ka, ha, sa, Al, Hl, Sl, n, f0, f1, f2, f3, f4, f5, f6, f7, f8, f9, f10, f11, f12, f13, f14, f15, f16, f17, f18, f19, f20, f21, iv⟩⟩ := H
  · exact ⟨I, hb, Or.inl hu⟩
  · exact ⟨I, hb, Or.inr ⟨ef, ka, ha, sa, Al, Hl, Sl, n, f0, f1, f2, f3, f4, f5, f6, f7, f8, f9, f10, f11, f12, f13, f14, f15, f16, f17, f18, f19, f20, f21, inv_weak iv⟩⟩
theorem own_c (u : Int32) : ∃ k : Nat, (u &&& 7) % 5 = Int32.ofNat k ∧ k < 5 := by
  obtain ⟨b1, b2⟩ := c_and u 7 (by decide)
  generalize (u &&& 7) = u at *
  obtain ⟨r1, r2, -⟩ := (c_iremV u 5).1 b1 (by decide)
  simp only [Int32.reduceToInt] at r2
  refine ⟨(u % 5).toInt.toNat, ?_, by omega⟩
  apply Int32.toInt_inj.mp
  rw [o_int (by omega)]; omega
set_option maxRecDepth 65536 in
set_option maxHeartbeats 40000000 in
theorem c_bifN (l : Launch) (Z : State) (a0 : Array Value) (hw : ∀ d ∈ tables_1, d.before a0 Z = true) (ws : List Jvm.Cond) (b aa zz : Addr) (code' i k : Int32) (h0 : Heap) (n0 : Nat) (Z0 : n0 ≤ h0.size) (c1 : ¬ i < k) :
    Ctr l Z (⟨"com/example/sightline/sightline/checker/ByActivityPopPinLaw", "bumpIf", "(Lcom/example/sightline/sightline/checker/ByActivity;[I[ZIII)V"⟩ : MethodName) method_3_code 7 none ws ({ frames := 0, cells := 0, slots := 0, locals := 0 } : Room) n0 #[(.ref b), (.ref aa), (.ref zz), (.int code'), (.int i), (.int k)] h0 (fun v h => v = none ∧ h0 = h) := by
  refine ctr (own := "com/example/sightline/sightline/checker/ByActivityPopPinLaw") (nm := "bumpIf") rfl rfl (Ls := #[.val (.ref b), .val (.ref aa), .val (.ref zz), .val (.int code'), .val (.int i), .val (.int k), .unset]) (plainFor_of_name pn2) (fun m => by first | (simp [entryFrame, mkF, argsToLocals, Value.category]; done) | rfl) ?_
  intro p e s m below meth c K eh
  refine Jvm.OwnWp.iload K d_method_3_0 rfl (pc' := 2) rfl ?_
  refine Jvm.OwnWp.iload K d_method_3_2 rfl (pc' := 4) rfl ?_
  refine icY K d_method_3_4 (XT.ii_ge_t c1) (pc' := 41) (by decide) (by decide) ?_
  refine retV K rfl d_method_3_41 (Nat.le_of_ble_eq_true rfl) (Nat.le_of_ble_eq_true rfl) ?_
  exact ⟨rfl, rfl⟩
set_option maxRecDepth 65536 in
set_option maxHeartbeats 40000000 in
theorem c_bifU (l : Launch) (Z : State) (a0 : Array Value) (hw : ∀ d ∈ tables_1, d.before a0 Z = true) (ws : List Jvm.Cond) (b aa zz : Addr) (code' i k : Int32) (B : Nat) (q T : List Nat) (h0 : Heap) (n0 : Nat) (Z0 : n0 ≤ h0.size) (B9 : B ≤ 100) (c1 : i < k) (hJ : JJ false Z h0 n0 b aa zz B q T) :
    Ctr l Z (⟨"com/example/sightline/sightline/checker/ByActivityPopPinLaw", "bumpIf", "(Lcom/example/sightline/sightline/checker/ByActivity;[I[ZIII)V"⟩ : MethodName) method_3_code 7 none ws ({ frames := 4, cells := 3, slots := 15, locals := 54 } : Room) n0 #[(.ref b), (.ref aa), (.ref zz), (.int code'), (.int i), (.int k)] h0 (fun v h => v = none ∧ h0.size ≤ h.size ∧ ∃ q' T' : List Nat, JJ true Z h n0 b aa zz (B + 1) q' T') := by
  refine ctr (own := "com/example/sightline/sightline/checker/ByActivityPopPinLaw") (nm := "bumpIf") rfl rfl (Ls := #[.val (.ref b), .val (.ref aa), .val (.ref zz), .val (.int code'), .val (.int i), .val (.int k), .unset]) (plainFor_of_name pn2) (fun m => by first | (simp [entryFrame, mkF, argsToLocals, Value.category]; done) | rfl) ?_
  intro p e s m below meth c K eh
  have P0 := Keep.refl h0 [b, aa, zz]
  refine Jvm.OwnWp.iload K d_method_3_0 rfl (pc' := 2) rfl ?_
  refine Jvm.OwnWp.iload K d_method_3_2 rfl (pc' := 4) rfl ?_
  refine icN K d_method_3_4 (XT.ii_ge_f c1) (pc' := 7) rfl ?_
  refine Jvm.OwnWp.iloadN K d_method_3_7 rfl (pc' := 8) rfl ?_
  refine Jvm.OwnWp.iconst K (3 : Int32) d_method_3_8 (by decide) (pc' := 9) rfl ?_
  refine Jvm.OwnWp.iload K d_method_3_9 rfl (pc' := 11) rfl ?_
  refine Jvm.OwnWp.imul K d_method_3_11 (pc' := 12) rfl ?_
  refine Jvm.OwnWp.iushr K d_method_3_12 (pc' := 13) rfl ?_
  refine Jvm.OwnWp.bipush K (7 : Int32) d_method_3_13 (by decide) (pc' := 15) rfl ?_
  refine Jvm.OwnWp.iand K d_method_3_15 (pc' := 16) rfl ?_
  refine Jvm.OwnWp.iconst K (5 : Int32) d_method_3_16 (by decide) (pc' := 17) rfl ?_
  refine Jvm.OwnWp.irem K d_method_3_17 (by decide) (pc' := 18) rfl ?_
  obtain ⟨ch, hcc, hch⟩ := own_c ((code'.toUInt32 >>> (((3 : Int32) * i) &&& 31).toUInt32).toInt32)
  rw [show (((code'.toUInt32 >>> (((3 : Int32) * i) &&& 31).toUInt32).toInt32) &&& (7 : Int32)) % (5 : Int32) = Int32.ofNat ch from hcc]
  refine Jvm.OwnWp.istore K d_method_3_18 (Ls' := #[.val (.ref b), .val (.ref aa), .val (.ref zz), .val (.int code'), .val (.int i), .val (.int k), .val (.int (Int32.ofNat ch))]) rfl (pc' := 20) rfl ?_
  refine Jvm.OwnWp.aloadN K d_method_3_20 rfl rfl (pc' := 21) rfl ?_
  refine Jvm.OwnWp.iload K d_method_3_21 rfl (pc' := 23) rfl ?_
  obtain ⟨I, ⟨E, ge_b, ge_aa, ge_zz, ne_aa_b, ne_zz_b, ne_aa_zz, V_aa, V_zz, F_gain, F_choices, hI, hq⟩, ⟨-, G3, G4, G5, G6, rfl, rfl⟩ | ⟨ef, -⟩⟩ := hJ
  rotate_left
  · cases ef
  have hqB : (List.replicate 5 0).getD ch 0 ≤ 100 := by rw [List.getD_eq_getElem?_getD, List.getElem?_replicate]; split <;> simp
  obtain ⟨-, g1, g2, iv1⟩ := inv_bumpN (N := 5) (c := ch) (by decide) (by decide) (inv_start (by decide)) hch (by simp) (by decide)
  refine callVirt K (y := (⟨"com/example/sightline/sightline/checker/ByActivity", "bump", "(I)V"⟩ : MethodName)) (b := b) (argsL := [(.int (Int32.ofNat ch))]) (S := []) (wd19 hw) (wd20 hw) (wd22 hw) (wd21 hw) (wd2 hw) (wd23 hw) (by decide) E (c_bump0 l Z a0 hw [] b 5 ch 4607182418800017408 h0 n0 Z0 (by decide) (by decide) hch g1 g2 E G3 G4 G5 G6 F_gain F_choices ge_b) (lenOf pd1 rfl) d_method_3_23 rfl (Nat.le_of_ble_eq_true rfl) (Nat.le_of_ble_eq_true rfl) (Nat.le_of_ble_eq_true rfl) (Nat.le_of_ble_eq_true rfl) rfl (pc' := 26) rfl ?_
  rintro v33 h33 ⟨rfl, K33, ka, ha, sa, zk, zh, zs, ne_ha_ka, ne_sa_ka, ne_sa_ha, Q33_E, Q33_F_act, Q33_F_heap, Q33_F_slot, Q33_F_count, Q33_F_gain, Q33_F_choices, Q33_VA, Q33_VH, Q33_VS⟩
  have ne_b_ka : b ≠ ka := Nat.ne_of_lt (Nat.lt_of_lt_of_le (Exa.lt E) zk)
  have ne_aa_ka : aa ≠ ka := Nat.ne_of_lt (Nat.lt_of_lt_of_le (V_aa.lt) zk)
  have ne_zz_ka : zz ≠ ka := Nat.ne_of_lt (Nat.lt_of_lt_of_le (V_zz.lt) zk)
  have lt_ka : h0.size ≤ ka := Nat.le_trans P0.1 zk
  have ge_ka : n0 ≤ ka := Nat.le_trans Z0 lt_ka
  have ne_b_ha : b ≠ ha := Nat.ne_of_lt (Nat.lt_of_lt_of_le (Exa.lt E) zh)
  have ne_aa_ha : aa ≠ ha := Nat.ne_of_lt (Nat.lt_of_lt_of_le (V_aa.lt) zh)
  have ne_zz_ha : zz ≠ ha := Nat.ne_of_lt (Nat.lt_of_lt_of_le (V_zz.lt) zh)
  have lt_ha : h0.size ≤ ha := Nat.le_trans P0.1 zh
  have ge_ha : n0 ≤ ha := Nat.le_trans Z0 lt_ha
  have ne_b_sa : b ≠ sa := Nat.ne_of_lt (Nat.lt_of_lt_of_le (Exa.lt E) zs)
  have ne_aa_sa : aa ≠ sa := Nat.ne_of_lt (Nat.lt_of_lt_of_le (V_aa.lt) zs)
  have ne_zz_sa : zz ≠ sa := Nat.ne_of_lt (Nat.lt_of_lt_of_le (V_zz.lt) zs)
  have lt_sa : h0.size ≤ sa := Nat.le_trans P0.1 zs
  have ge_sa : n0 ≤ sa := Nat.le_trans Z0 lt_sa
  have X33_b := (Exa.keep E K33)
  have V33_aa := (V_aa.keep K33 (ninS ne_aa_b (nin0)))
  have V33_zz := (V_zz.keep K33 (ninS ne_zz_b (nin0)))
  have P33 := (P0.trans K33 (allS (Or.inl (List.mem_of_getElem? (i := 0) rfl)) (all0)))
  show Go _ _ _ _ _ _ _ _ _ _ _ h33 3 15 (mkF m 26 #[.val (.ref b), .val (.ref aa), .val (.ref zz), .val (.int code'), .val (.int i), .val (.int k), .val (.int (Int32.ofNat ch))] []) _
  change DV Z h33 ka ((List.replicate 5 0).set ch (bumpA (List.replicate 5 0) ch)) at Q33_VA
  change HV Z h33 ha (pushB ((List.replicate 5 0).set ch (bumpA (List.replicate 5 0) ch)) ch (List.replicate 5 0) (List.replicate 5 (-1)) 0).1 at Q33_VH
  change IV Z h33 sa (pushB ((List.replicate 5 0).set ch (bumpA (List.replicate 5 0) ch)) ch (List.replicate 5 0) (List.replicate 5 (-1)) 0).2 at Q33_VS
  have iv2 : ∀ B, Inv 5 (B + 1) 1 _ _ _ _ _ := fun B => Inv.mk iv1.lA iv1.lq iv1.wf iv1.od iv1.di (fun j => Nat.le_trans (iv1.bd j) (Nat.le_add_left 1 B)) iv1.pm
  refine Jvm.OwnWp.aloadN K d_method_3_26 rfl rfl (pc' := 27) rfl ?_
  refine Jvm.OwnWp.iload K d_method_3_27 rfl (pc' := 29) rfl ?_
  refine Jvm.OwnWp.aloadN K d_method_3_29 rfl rfl (pc' := 30) rfl ?_
  refine Jvm.OwnWp.iload K d_method_3_30 rfl (pc' := 32) rfl ?_
  refine iaload K (i := ch) V33_aa (o_int (by omega)) (mapAt (getDAt (d := 0) (by simpa using hch))) d_method_3_32 (pc' := 33) rfl ?_
  refine Jvm.OwnWp.iconst K (1 : Int32) d_method_3_33 (by decide) (pc' := 34) rfl ?_
  refine Jvm.OwnWp.iadd K d_method_3_34 (pc' := 35) rfl ?_
  rw [show (Int32.ofNat ((List.replicate 5 0).getD ch 0)) + (1 : Int32) = Int32.ofNat ((List.replicate 5 0).getD ch 0 + 1) from o_add1 (by omega)]
  refine iastore K (i := ch) V33_aa (o_int (by omega)) (mapLt (by simpa using hch)) ge_aa d_method_3_35 (pc' := 36) rfl ?_
  intro h34 W34
  have F34_activity_b := (Fld.other W34 Q33_F_act (Or.inl (Ne.symm ne_aa_b)))
  have F34_heap_b := (Fld.other W34 Q33_F_heap (Or.inl (Ne.symm ne_aa_b)))
  have F34_slot_b := (Fld.other W34 Q33_F_slot (Or.inl (Ne.symm ne_aa_b)))
  have F34_count_b := (Fld.other W34 Q33_F_count (Or.inl (Ne.symm ne_aa_b)))
  have F34_gain_b := (Fld.other W34 Q33_F_gain (Or.inl (Ne.symm ne_aa_b)))
  have F34_choices_b := (Fld.other W34 Q33_F_choices (Or.inl (Ne.symm ne_aa_b)))
  have X34_b := (Exa.wr W34 Q33_E)
  have V34_zz := (V33_zz.other W34 (Ne.symm ne_aa_zz))
  have V34_ka := (Q33_VA.other W34 (Ne.symm ne_aa_ka))
  have V34_ha := (Q33_VH.other W34 (Ne.symm ne_aa_ha))
  have V34_sa := (Q33_VS.other W34 (Ne.symm ne_aa_sa))
  have P34 := (P33.wr W34 (Or.inl (List.mem_of_getElem? (i := 1) rfl)))
  have V34_aa := V33_aa.set W34
  refine Jvm.OwnWp.aloadN K d_method_3_36 rfl rfl (pc' := 37) rfl ?_
  refine Jvm.OwnWp.iload K d_method_3_37 rfl (pc' := 39) rfl ?_
  refine Jvm.OwnWp.iconst K (1 : Int32) d_method_3_39 (by decide) (pc' := 40) rfl ?_
  refine zastore K (i := ch) V34_zz (o_int (by omega)) (mapLt (by have := hI.1; omega)) ge_zz d_method_3_40 (pc' := 41) rfl ?_
  intro h35 W35
  have F35_activity_b := (Fld.other W35 F34_activity_b (Or.inl (Ne.symm ne_zz_b)))
  have F35_heap_b := (Fld.other W35 F34_heap_b (Or.inl (Ne.symm ne_zz_b)))
  have F35_slot_b := (Fld.other W35 F34_slot_b (Or.inl (Ne.symm ne_zz_b)))
  have F35_count_b := (Fld.other W35 F34_count_b (Or.inl (Ne.symm ne_zz_b)))
  have F35_gain_b := (Fld.other W35 F34_gain_b (Or.inl (Ne.symm ne_zz_b)))
  have F35_choices_b := (Fld.other W35 F34_choices_b (Or.inl (Ne.symm ne_zz_b)))
  have X35_b := (Exa.wr W35 X34_b)
  have V35_aa := (V34_aa.other W35 ne_aa_zz)
  have V35_ka := (V34_ka.other W35 (Ne.symm ne_zz_ka))
  have V35_ha := (V34_ha.other W35 (Ne.symm ne_zz_ha))
  have V35_sa := (V34_sa.other W35 (Ne.symm ne_zz_sa))
  have P35 := (P34.wr W35 (Or.inl (List.mem_of_getElem? (i := 2) rfl)))
  have V35_zz := V34_zz.set W35
  refine retV K rfl d_method_3_41 (Nat.le_of_ble_eq_true rfl) (Nat.le_of_ble_eq_true rfl) ?_
  exact ⟨rfl, P35.1, _, [ch], _, ⟨X35_b, ge_b, ge_aa, ge_zz, ne_aa_b, ne_zz_b, ne_aa_zz, V35_aa, V35_zz, F35_gain_b, F35_choices_b, (in5_add hI hch (fun j => by simp)), (by rw [List.length_set]; exact hq)⟩, Or.inr ⟨rfl, ka, ha, sa, _, _, _, _, F35_activity_b, F35_heap_b, F35_slot_b, F35_count_b, V35_ka, V35_ha, V35_sa, (Ne.symm ne_b_ka), (Ne.symm ne_b_ha), (Ne.symm ne_b_sa), ne_ha_ka, ne_sa_ka, ne_sa_ha, ge_ka, ge_ha, ge_sa, ne_aa_ka, ne_aa_ha, ne_aa_sa, ne_zz_ka, ne_zz_ha, ne_zz_sa, (iv2 B)⟩⟩
set_option maxRecDepth 65536 in
set_option maxHeartbeats 40000000 in
theorem c_bifB (l : Launch) (Z : State) (a0 : Array Value) (hw : ∀ d ∈ tables_1, d.before a0 Z = true) (ws : List Jvm.Cond) (b aa zz : Addr) (code' i k : Int32) (B : Nat) (q T : List Nat) (h0 : Heap) (n0 : Nat) (Z0 : n0 ≤ h0.size) (B9 : B ≤ 100) (hJ : JJ true Z h0 n0 b aa zz B q T) :
    Ctr l Z (⟨"com/example/sightline/sightline/checker/ByActivityPopPinLaw", "bumpIf", "(Lcom/example/sightline/sightline/checker/ByActivity;[I[ZIII)V"⟩ : MethodName) method_3_code 7 none ws ({ frames := 4, cells := 0, slots := 0, locals := 54 } : Room) n0 #[(.ref b), (.ref aa), (.ref zz), (.int code'), (.int i), (.int k)] h0 (fun v h => v = none ∧ h0.size ≤ h.size ∧ ∃ q' T' : List Nat, JJ true Z h n0 b aa zz (B + 1) q' T') := by
  refine ctr (own := "com/example/sightline/sightline/checker/ByActivityPopPinLaw") (nm := "bumpIf") rfl rfl (Ls := #[.val (.ref b), .val (.ref aa), .val (.ref zz), .val (.int code'), .val (.int i), .val (.int k), .unset]) (plainFor_of_name pn2) (fun m => by first | (simp [entryFrame, mkF, argsToLocals, Value.category]; done) | rfl) ?_
  intro p e s m below meth c K eh
  refine Jvm.OwnWp.iload K d_method_3_0 rfl (pc' := 2) rfl ?_
  refine Jvm.OwnWp.iload K d_method_3_2 rfl (pc' := 4) rfl ?_
  by_cases c1 : i < k
  · refine icN K d_method_3_4 (XT.ii_ge_f c1) (pc' := 7) rfl ?_
    refine Jvm.OwnWp.iloadN K d_method_3_7 rfl (pc' := 8) rfl ?_
    refine Jvm.OwnWp.iconst K (3 : Int32) d_method_3_8 (by decide) (pc' := 9) rfl ?_
    refine Jvm.OwnWp.iload K d_method_3_9 rfl (pc' := 11) rfl ?_
    refine Jvm.OwnWp.imul K d_method_3_11 (pc' := 12) rfl ?_
    refine Jvm.OwnWp.iushr K d_method_3_12 (pc' := 13) rfl ?_
    refine Jvm.OwnWp.bipush K (7 : Int32) d_method_3_13 (by decide) (pc' := 15) rfl ?_
    refine Jvm.OwnWp.iand K d_method_3_15 (pc' := 16) rfl ?_
    refine Jvm.OwnWp.iconst K (5 : Int32) d_method_3_16 (by decide) (pc' := 17) rfl ?_
    refine Jvm.OwnWp.irem K d_method_3_17 (by decide) (pc' := 18) rfl ?_
    obtain ⟨ch, hcc, hch⟩ := own_c ((code'.toUInt32 >>> (((3 : Int32) * i) &&& 31).toUInt32).toInt32)
    rw [show (((code'.toUInt32 >>> (((3 : Int32) * i) &&& 31).toUInt32).toInt32) &&& (7 : Int32)) % (5 : Int32) = Int32.ofNat ch from hcc]
    refine Jvm.OwnWp.istore K d_method_3_18 (Ls' := #[.val (.ref b), .val (.ref aa), .val (.ref zz), .val (.int code'), .val (.int i), .val (.int k), .val (.int (Int32.ofNat ch))]) rfl (pc' := 20) rfl ?_
    refine Jvm.OwnWp.aloadN K d_method_3_20 rfl rfl (pc' := 21) rfl ?_
    refine Jvm.OwnWp.iload K d_method_3_21 rfl (pc' := 23) rfl ?_
    obtain ⟨I, ⟨E, ge_b, ge_aa, ge_zz, ne_aa_b, ne_zz_b, ne_aa_zz, V_aa, V_zz, F_gain, F_choices, hI, hq⟩, ⟨ef, -⟩ | ⟨-, ka, ha, sa, Al, Hl, Sl, n, F_act, F_heap, F_slot, F_count, VA, VH, VS, ne_ka_b, ne_ha_b, ne_sa_b, ne_ha_ka, ne_sa_ka, ne_sa_ha, ge_ka, ge_ha, ge_sa, ne_aa_ka, ne_aa_ha, ne_aa_sa, ne_zz_ka, ne_zz_ha, ne_zz_sa, iv⟩⟩ := hJ
    · cases ef
    have P1 := Keep.refl h0 [b, aa, zz, ka, ha, sa]
    have hqB := Nat.le_trans (iv.bd ch) B9
    have hn5 := iv.wf.2.2.1
    by_cases ht : ch ∈ T
    · obtain ⟨-, g1, g2, i', hi', s1, iv'⟩ := inv_bumpU (c := ch) (by decide) (by omega) iv ht
      refine callVirt K (y := (⟨"com/example/sightline/sightline/checker/ByActivity", "bump", "(I)V"⟩ : MethodName)) (b := b) (argsL := [(.int (Int32.ofNat ch))]) (S := []) (wd19 hw) (wd20 hw) (wd22 hw) (wd21 hw) (wd2 hw) (wd23 hw) (by decide) E (c_bumpU l Z a0 hw [] b ka ha sa 5 n 4607182418800017408 Al Hl Sl ch i' h0 n0 Z0 iv.lA iv.wf.1 iv.wf.2.1 (by decide) (by decide) iv.wf.2.2.2.1 hi' hch g1 g2 s1 E F_act F_heap F_slot F_count F_gain F_choices VA VH VS ne_ka_b ne_ha_b ne_sa_b ne_ha_ka ne_sa_ka ne_sa_ha ge_b ge_ka ge_ha ge_sa) (lenOf pd1 rfl) d_method_3_23 rfl (Nat.le_of_ble_eq_true rfl) (Nat.le_of_ble_eq_true rfl) (Nat.le_of_ble_eq_true rfl) (Nat.le_of_ble_eq_true rfl) rfl (pc' := 26) rfl ?_
      rintro v36 h36 ⟨rfl, K36, Q36_E, Q36_F_act, Q36_F_heap, Q36_F_slot, Q36_F_count, Q36_F_gain, Q36_F_choices, Q36_VA, Q36_VH, Q36_VS⟩
      have X36_b := (Exa.keep E K36)
      have V36_aa := (V_aa.keep K36 (ninS ne_aa_b (ninS ne_aa_ka (ninS ne_aa_ha (ninS ne_aa_sa (nin0))))))
      have V36_zz := (V_zz.keep K36 (ninS ne_zz_b (ninS ne_zz_ka (ninS ne_zz_ha (ninS ne_zz_sa (nin0))))))
      have P36 := (P1.trans K36 (allS (Or.inl (List.mem_of_getElem? (i := 0) rfl)) (allS (Or.inl (List.mem_of_getElem? (i := 3) rfl)) (allS (Or.inl (List.mem_of_getElem? (i := 4) rfl)) (allS (Or.inl (List.mem_of_getElem? (i := 5) rfl)) (all0))))))
      show Go _ _ _ _ _ _ _ _ _ _ _ h36 0 0 (mkF m 26 #[.val (.ref b), .val (.ref aa), .val (.ref zz), .val (.int code'), .val (.int i), .val (.int k), .val (.int (Int32.ofNat ch))] []) _
      change DV Z h36 ka (Al.set ch (bumpA Al ch)) at Q36_VA
      change HV Z h36 ha (upB (Al.set ch (bumpA Al ch)) (Hl.getD i' 0) Hl Sl i').1 at Q36_VH
      change IV Z h36 sa (upB (Al.set ch (bumpA Al ch)) (Hl.getD i' 0) Hl Sl i').2 at Q36_VS
      refine Jvm.OwnWp.aloadN K d_method_3_26 rfl rfl (pc' := 27) rfl ?_
      refine Jvm.OwnWp.iload K d_method_3_27 rfl (pc' := 29) rfl ?_
      refine Jvm.OwnWp.aloadN K d_method_3_29 rfl rfl (pc' := 30) rfl ?_
      refine Jvm.OwnWp.iload K d_method_3_30 rfl (pc' := 32) rfl ?_
      refine iaload K (i := ch) V36_aa (o_int (by omega)) (mapAt (getDAt (d := 0) (by omega))) d_method_3_32 (pc' := 33) rfl ?_
      refine Jvm.OwnWp.iconst K (1 : Int32) d_method_3_33 (by decide) (pc' := 34) rfl ?_
      refine Jvm.OwnWp.iadd K d_method_3_34 (pc' := 35) rfl ?_
      rw [show (Int32.ofNat (q.getD ch 0)) + (1 : Int32) = Int32.ofNat (q.getD ch 0 + 1) from o_add1 (by have := hqB; omega)]
      refine iastore K (i := ch) V36_aa (o_int (by omega)) (mapLt (by omega)) ge_aa d_method_3_35 (pc' := 36) rfl ?_
      intro h37 W37
      have F37_activity_b := (Fld.other W37 Q36_F_act (Or.inl (Ne.symm ne_aa_b)))
      have F37_heap_b := (Fld.other W37 Q36_F_heap (Or.inl (Ne.symm ne_aa_b)))
      have F37_slot_b := (Fld.other W37 Q36_F_slot (Or.inl (Ne.symm ne_aa_b)))
      have F37_count_b := (Fld.other W37 Q36_F_count (Or.inl (Ne.symm ne_aa_b)))
      have F37_gain_b := (Fld.other W37 Q36_F_gain (Or.inl (Ne.symm ne_aa_b)))
      have F37_choices_b := (Fld.other W37 Q36_F_choices (Or.inl (Ne.symm ne_aa_b)))
      have X37_b := (Exa.wr W37 Q36_E)
      have V37_zz := (V36_zz.other W37 (Ne.symm ne_aa_zz))
      have V37_ka := (Q36_VA.other W37 (Ne.symm ne_aa_ka))
      have V37_ha := (Q36_VH.other W37 (Ne.symm ne_aa_ha))
      have V37_sa := (Q36_VS.other W37 (Ne.symm ne_aa_sa))
      have P37 := (P36.wr W37 (Or.inl (List.mem_of_getElem? (i := 1) rfl)))
      have V37_aa := V36_aa.set W37
      refine Jvm.OwnWp.aloadN K d_method_3_36 rfl rfl (pc' := 37) rfl ?_
      refine Jvm.OwnWp.iload K d_method_3_37 rfl (pc' := 39) rfl ?_
      refine Jvm.OwnWp.iconst K (1 : Int32) d_method_3_39 (by decide) (pc' := 40) rfl ?_
      refine zastore K (i := ch) V37_zz (o_int (by omega)) (mapLt (by have := hI.1; omega)) ge_zz d_method_3_40 (pc' := 41) rfl ?_
      intro h38 W38
      have F38_activity_b := (Fld.other W38 F37_activity_b (Or.inl (Ne.symm ne_zz_b)))
      have F38_heap_b := (Fld.other W38 F37_heap_b (Or.inl (Ne.symm ne_zz_b)))
      have F38_slot_b := (Fld.other W38 F37_slot_b (Or.inl (Ne.symm ne_zz_b)))
      have F38_count_b := (Fld.other W38 F37_count_b (Or.inl (Ne.symm ne_zz_b)))
      have F38_gain_b := (Fld.other W38 F37_gain_b (Or.inl (Ne.symm ne_zz_b)))
      have F38_choices_b := (Fld.other W38 F37_choices_b (Or.inl (Ne.symm ne_zz_b)))
      have X38_b := (Exa.wr W38 X37_b)
      have V38_aa := (V37_aa.other W38 ne_aa_zz)
      have V38_ka := (V37_ka.other W38 (Ne.symm ne_zz_ka))
      have V38_ha := (V37_ha.other W38 (Ne.symm ne_zz_ha))
      have V38_sa := (V37_sa.other W38 (Ne.symm ne_zz_sa))
      have P38 := (P37.wr W38 (Or.inl (List.mem_of_getElem? (i := 2) rfl)))
      have V38_zz := V37_zz.set W38
      refine retV K rfl d_method_3_41 (Nat.le_of_ble_eq_true rfl) (Nat.le_of_ble_eq_true rfl) ?_
      exact ⟨rfl, P38.1, _, T, _, ⟨X38_b, ge_b, ge_aa, ge_zz, ne_aa_b, ne_zz_b, ne_aa_zz, V38_aa, V38_zz, F38_gain_b, F38_choices_b, (in5_add hI hch (fun j => ⟨Or.inr, fun q => q.elim (fun e => e ▸ ht) id⟩)), (by rw [List.length_set]; exact hq)⟩, Or.inr ⟨rfl, ka, ha, sa, _, _, _, _, F38_activity_b, F38_heap_b, F38_slot_b, F38_count_b, V38_ka, V38_ha, V38_sa, ne_ka_b, ne_ha_b, ne_sa_b, ne_ha_ka, ne_sa_ka, ne_sa_ha, ge_ka, ge_ha, ge_sa, ne_aa_ka, ne_aa_ha, ne_aa_sa, ne_zz_ka, ne_zz_ha, ne_zz_sa, iv'⟩⟩
    · have hroom := inv_room (by decide) iv hch ht
      obtain ⟨s1, g1, g2, iv'⟩ := inv_bumpN (c := ch) (by decide) (by omega) iv hch ht hroom
      refine callVirt K (y := (⟨"com/example/sightline/sightline/checker/ByActivity", "bump", "(I)V"⟩ : MethodName)) (b := b) (argsL := [(.int (Int32.ofNat ch))]) (S := []) (wd19 hw) (wd20 hw) (wd22 hw) (wd21 hw) (wd2 hw) (wd23 hw) (by decide) E (c_bumpN l Z a0 hw [] b ka ha sa 5 n 4607182418800017408 Al Hl Sl ch h0 n0 Z0 iv.lA iv.wf.1 iv.wf.2.1 (by decide) (by decide) iv.wf.2.2.2.1 hroom hch g1 g2 s1 E F_act F_heap F_slot F_count F_gain F_choices VA VH VS ne_ka_b ne_ha_b ne_sa_b ne_ha_ka ne_sa_ka ne_sa_ha ge_b ge_ka ge_ha ge_sa) (lenOf pd1 rfl) d_method_3_23 rfl (Nat.le_of_ble_eq_true rfl) (Nat.le_of_ble_eq_true rfl) (Nat.le_of_ble_eq_true rfl) (Nat.le_of_ble_eq_true rfl) rfl (pc' := 26) rfl ?_
      rintro v39 h39 ⟨rfl, K39, Q39_E, Q39_F_act, Q39_F_heap, Q39_F_slot, Q39_F_count, Q39_F_gain, Q39_F_choices, Q39_VA, Q39_VH, Q39_VS⟩
      have X39_b := (Exa.keep E K39)
      have V39_aa := (V_aa.keep K39 (ninS ne_aa_b (ninS ne_aa_ka (ninS ne_aa_ha (ninS ne_aa_sa (nin0))))))
      have V39_zz := (V_zz.keep K39 (ninS ne_zz_b (ninS ne_zz_ka (ninS ne_zz_ha (ninS ne_zz_sa (nin0))))))
      have P39 := (P1.trans K39 (allS (Or.inl (List.mem_of_getElem? (i := 0) rfl)) (allS (Or.inl (List.mem_of_getElem? (i := 3) rfl)) (allS (Or.inl (List.mem_of_getElem? (i := 4) rfl)) (allS (Or.inl (List.mem_of_getElem? (i := 5) rfl)) (all0))))))
      show Go _ _ _ _ _ _ _ _ _ _ _ h39 0 0 (mkF m 26 #[.val (.ref b), .val (.ref aa), .val (.ref zz), .val (.int code'), .val (.int i), .val (.int k), .val (.int (Int32.ofNat ch))] []) _
      change DV Z h39 ka (Al.set ch (bumpA Al ch)) at Q39_VA
      change HV Z h39 ha (pushB (Al.set ch (bumpA Al ch)) ch Hl Sl n).1 at Q39_VH
      change IV Z h39 sa (pushB (Al.set ch (bumpA Al ch)) ch Hl Sl n).2 at Q39_VS
      refine Jvm.OwnWp.aloadN K d_method_3_26 rfl rfl (pc' := 27) rfl ?_
      refine Jvm.OwnWp.iload K d_method_3_27 rfl (pc' := 29) rfl ?_
      refine Jvm.OwnWp.aloadN K d_method_3_29 rfl rfl (pc' := 30) rfl ?_
      refine Jvm.OwnWp.iload K d_method_3_30 rfl (pc' := 32) rfl ?_
      refine iaload K (i := ch) V39_aa (o_int (by omega)) (mapAt (getDAt (d := 0) (by omega))) d_method_3_32 (pc' := 33) rfl ?_
      refine Jvm.OwnWp.iconst K (1 : Int32) d_method_3_33 (by decide) (pc' := 34) rfl ?_
      refine Jvm.OwnWp.iadd K d_method_3_34 (pc' := 35) rfl ?_
      rw [show (Int32.ofNat (q.getD ch 0)) + (1 : Int32) = Int32.ofNat (q.getD ch 0 + 1) from o_add1 (by have := hqB; omega)]
      refine iastore K (i := ch) V39_aa (o_int (by omega)) (mapLt (by omega)) ge_aa d_method_3_35 (pc' := 36) rfl ?_
      intro h40 W40
      have F40_activity_b := (Fld.other W40 Q39_F_act (Or.inl (Ne.symm ne_aa_b)))
      have F40_heap_b := (Fld.other W40 Q39_F_heap (Or.inl (Ne.symm ne_aa_b)))
      have F40_slot_b := (Fld.other W40 Q39_F_slot (Or.inl (Ne.symm ne_aa_b)))
      have F40_count_b := (Fld.other W40 Q39_F_count (Or.inl (Ne.symm ne_aa_b)))
      have F40_gain_b := (Fld.other W40 Q39_F_gain (Or.inl (Ne.symm ne_aa_b)))
      have F40_choices_b := (Fld.other W40 Q39_F_choices (Or.inl (Ne.symm ne_aa_b)))
      have X40_b := (Exa.wr W40 Q39_E)
      have V40_zz := (V39_zz.other W40 (Ne.symm ne_aa_zz))
      have V40_ka := (Q39_VA.other W40 (Ne.symm ne_aa_ka))
      have V40_ha := (Q39_VH.other W40 (Ne.symm ne_aa_ha))
      have V40_sa := (Q39_VS.other W40 (Ne.symm ne_aa_sa))
      have P40 := (P39.wr W40 (Or.inl (List.mem_of_getElem? (i := 1) rfl)))
      have V40_aa := V39_aa.set W40
      refine Jvm.OwnWp.aloadN K d_method_3_36 rfl rfl (pc' := 37) rfl ?_
      refine Jvm.OwnWp.iload K d_method_3_37 rfl (pc' := 39) rfl ?_
      refine Jvm.OwnWp.iconst K (1 : Int32) d_method_3_39 (by decide) (pc' := 40) rfl ?_
      refine zastore K (i := ch) V40_zz (o_int (by omega)) (mapLt (by have := hI.1; omega)) ge_zz d_method_3_40 (pc' := 41) rfl ?_
      intro h41 W41
      have F41_activity_b := (Fld.other W41 F40_activity_b (Or.inl (Ne.symm ne_zz_b)))
      have F41_heap_b := (Fld.other W41 F40_heap_b (Or.inl (Ne.symm ne_zz_b)))
      have F41_slot_b := (Fld.other W41 F40_slot_b (Or.inl (Ne.symm ne_zz_b)))
      have F41_count_b := (Fld.other W41 F40_count_b (Or.inl (Ne.symm ne_zz_b)))
      have F41_gain_b := (Fld.other W41 F40_gain_b (Or.inl (Ne.symm ne_zz_b)))
      have F41_choices_b := (Fld.other W41 F40_choices_b (Or.inl (Ne.symm ne_zz_b)))
      have X41_b := (Exa.wr W41 X40_b)
      have V41_aa := (V40_aa.other W41 ne_aa_zz)
      have V41_ka := (V40_ka.other W41 (Ne.symm ne_zz_ka))
      have V41_ha := (V40_ha.other W41 (Ne.symm ne_zz_ha))
      have V41_sa := (V40_sa.other W41 (Ne.symm ne_zz_sa))
      have P41 := (P40.wr W41 (Or.inl (List.mem_of_getElem? (i := 2) rfl)))
      have V41_zz := V40_zz.set W41
      refine retV K rfl d_method_3_41 (Nat.le_of_ble_eq_true rfl) (Nat.le_of_ble_eq_true rfl) ?_
      exact ⟨rfl, P41.1, _, (ch :: T), _, ⟨X41_b, ge_b, ge_aa, ge_zz, ne_aa_b, ne_zz_b, ne_aa_zz, V41_aa, V41_zz, F41_gain_b, F41_choices_b, (in5_add hI hch (fun j => List.mem_cons)), (by rw [List.length_set]; exact hq)⟩, Or.inr ⟨rfl, ka, ha, sa, _, _, _, _, F41_activity_b, F41_heap_b, F41_slot_b, F41_count_b, V41_ka, V41_ha, V41_sa, ne_ka_b, ne_ha_b, ne_sa_b, ne_ha_ka, ne_sa_ka, ne_sa_ha, ge_ka, ge_ha, ge_sa, ne_aa_ka, ne_aa_ha, ne_aa_sa, ne_zz_ka, ne_zz_ha, ne_zz_sa, iv'⟩⟩
  · refine icY K d_method_3_4 (XT.ii_ge_t c1) (pc' := 41) (by decide) (by decide) ?_
    refine retV K rfl d_method_3_41 (Nat.le_of_ble_eq_true rfl) (Nat.le_of_ble_eq_true rfl) ?_
    exact ⟨rfl, Nat.le_refl _, q, T, jj_weak hJ⟩
set_option maxRecDepth 65536 in
set_option maxHeartbeats 40000000 in
theorem c_beats (l : Launch) (Z : State) (a0 : Array Value) (hw : ∀ d ∈ tables_1, d.before a0 Z = true) (ws : List Jvm.Cond) (aa zz : Addr) (j r : Nat) (q : List Nat) (I : List Int32) (h0 : Heap) (n0 : Nat) (Z0 : n0 ≤ h0.size) (hj : j < 5) (hr : r < 5) (hq : q.length = 5) (hI : I.length = 5) (qb : ∀ x, q.getD x 0 ≤ 900) (hb : I.getD j 0 ≠ 0 → q.getD j 0 ≤ q.getD r 0) (V_aa : HV Z h0 aa q) (V_zz : ZV Z h0 zz I) :
    Ctr l Z (⟨"com/example/sightline/sightline/checker/ByActivityPopPinLaw", "beats", "([I[ZII)Z"⟩ : MethodName) method_4_code 4 (some .boolean) ws ({ frames := 0, cells := 0, slots := 0, locals := 0 } : Room) n0 #[(.ref aa), (.ref zz), (.int (Int32.ofNat j)), (.int (Int32.ofNat r))] h0 (fun v h => v = some (.int 0) ∧ h0 = h) := by
  refine ctr (own := "com/example/sightline/sightline/checker/ByActivityPopPinLaw") (nm := "beats") rfl rfl (Ls := #[.val (.ref aa), .val (.ref zz), .val (.int (Int32.ofNat j)), .val (.int (Int32.ofNat r))]) (plainFor_of_name pn2) (fun m => by first | (simp [entryFrame, mkF, argsToLocals, Value.category]; done) | rfl) ?_
  intro p e s m below meth c K eh
  have q1 := qb j
  have q2 := qb r
  refine Jvm.OwnWp.aloadN K d_method_4_0 rfl rfl (pc' := 1) rfl ?_
  refine Jvm.OwnWp.iloadN K d_method_4_1 rfl (pc' := 2) rfl ?_
  refine zaload K (i := j) V_zz (o_int (by omega)) (mapAt (getDAt (d := 0) (by omega))) d_method_4_2 (pc' := 3) rfl ?_
  by_cases c1 : (I.getD j 0) = 0
  · refine ifY K d_method_4_3 (XT.i0_eq_t c1) (pc' := 19) (by decide) (by decide) ?_
    refine Jvm.OwnWp.iconst K (0 : Int32) d_method_4_19 (by decide) (pc' := 20) rfl ?_
    refine retB K (t := .boolean) rfl (by simp) d_method_4_20 (Nat.le_of_ble_eq_true rfl) (Nat.le_of_ble_eq_true rfl) ?_
    exact ⟨rfl, rfl⟩
  · refine ifN K d_method_4_3 (XT.i0_eq_f c1) (pc' := 6) rfl ?_
    refine Jvm.OwnWp.aloadN K d_method_4_6 rfl rfl (pc' := 7) rfl ?_
    refine Jvm.OwnWp.iloadN K d_method_4_7 rfl (pc' := 8) rfl ?_
    refine iaload K (i := j) V_aa (o_int (by omega)) (mapAt (getDAt (d := 0) (by omega))) d_method_4_8 (pc' := 9) rfl ?_
    refine Jvm.OwnWp.aloadN K d_method_4_9 rfl rfl (pc' := 10) rfl ?_
    refine Jvm.OwnWp.iloadN K d_method_4_10 rfl (pc' := 11) rfl ?_
    refine iaload K (i := r) V_aa (o_int (by omega)) (mapAt (getDAt (d := 0) (by omega))) d_method_4_11 (pc' := 12) rfl ?_
    refine icY K d_method_4_12 (XT.ii_le_t (fun x => by have := (o_lt (by omega) (by omega)).mp x; have := hb c1; omega)) (pc' := 19) (by decide) (by decide) ?_
    refine Jvm.OwnWp.iconst K (0 : Int32) d_method_4_19 (by decide) (pc' := 20) rfl ?_
    refine retB K (t := .boolean) rfl (by simp) d_method_4_20 (Nat.le_of_ble_eq_true rfl) (Nat.le_of_ble_eq_true rfl) ?_
    exact ⟨rfl, rfl⟩
set_option maxRecDepth 65536 in
set_option maxHeartbeats 40000000 in
theorem c_pc (l : Launch) (Z : State) (a0 : Array Value) (hw : ∀ d ∈ tables_1, d.before a0 Z = true) (ws : List Jvm.Cond) (b aa zz : Addr) (B : Nat) (q T : List Nat) (f : Bool) (h0 : Heap) (n0 : Nat) (Z0 : n0 ≤ h0.size) (B9 : B ≤ 100) (hJ : JJ f Z h0 n0 b aa zz B q T) :
    Ctr l Z (⟨"com/example/sightline/sightline/checker/ByActivityPopPinLaw", "popCheck", "(Lcom/example/sightline/sightline/checker/ByActivity;[I[Z)Z"⟩ : MethodName) method_5_code 5 (some .boolean) ws ({ frames := 3, cells := 0, slots := 0, locals := 42 } : Room) n0 #[(.ref b), (.ref aa), (.ref zz)] h0 (fun v h => v = some (.int 1) ∧ h0.size ≤ h.size ∧ ∃ T' : List Nat, JJ f Z h n0 b aa zz B q T') := by
  refine ctr (own := "com/example/sightline/sightline/checker/ByActivityPopPinLaw") (nm := "popCheck") rfl rfl (Ls := #[.val (.ref b), .val (.ref aa), .val (.ref zz), .unset, .unset]) (plainFor_of_name pn2) (fun m => by first | (simp [entryFrame, mkF, argsToLocals, Value.category]; done) | rfl) ?_
  intro p e s m below meth c K eh
  have hJ' := hJ
  obtain ⟨I, ⟨E, ge_b, ge_aa, ge_zz, ne_aa_b, ne_zz_b, ne_aa_zz, V_aa, V_zz, F_gain, F_choices, hI, hq⟩, hs⟩ := hJ
  by_cases hT : T = []
  · have cnt : Fld Z h0 b "com/example/sightline/sightline/checker/ByActivity" "count" "I" (.int (Int32.ofNat 0)) := by
      rcases hs with ⟨-, G3, G4, G5, G6, -⟩ | ⟨-, ka, ha, sa, Al, Hl, Sl, n, F_act, F_heap, F_slot, F_count, VA, VH, VS, ne_ka_b, ne_ha_b, ne_sa_b, ne_ha_ka, ne_sa_ka, ne_sa_ha, ge_ka, ge_ha, ge_sa, ne_aa_ka, ne_aa_ha, ne_aa_sa, ne_zz_ka, ne_zz_ha, ne_zz_sa, iv⟩
      · exact G6
      · have e := inv_len iv
        rw [hT] at e
        have e' : n = 0 := e.symm
        rw [e'] at F_count; exact F_count
    refine Jvm.OwnWp.aloadN K d_method_5_0 rfl rfl (pc' := 1) rfl ?_
    refine Jvm.OwnWp.iconst K (0 : Int32) d_method_5_1 (by decide) (pc' := 2) rfl ?_
    refine zaload K (i := 0) V_zz (by decide) (mapAt (getDAt (d := 0) (by have := hI.1; omega))) d_method_5_2 (pc' := 3) rfl ?_
    refine ifN K d_method_5_3 (XT.i0_ne_f ((in5_z hI (by decide)).mpr (by rw [hT]; simp))) (pc' := 6) rfl ?_
    refine Jvm.OwnWp.aloadN K d_method_5_6 rfl rfl (pc' := 7) rfl ?_
    refine Jvm.OwnWp.iconst K (1 : Int32) d_method_5_7 (by decide) (pc' := 8) rfl ?_
    refine zaload K (i := 1) V_zz (by decide) (mapAt (getDAt (d := 0) (by have := hI.1; omega))) d_method_5_8 (pc' := 9) rfl ?_
    refine ifN K d_method_5_9 (XT.i0_ne_f ((in5_z hI (by decide)).mpr (by rw [hT]; simp))) (pc' := 12) rfl ?_
    refine Jvm.OwnWp.aloadN K d_method_5_12 rfl rfl (pc' := 13) rfl ?_
    refine Jvm.OwnWp.iconst K (2 : Int32) d_method_5_13 (by decide) (pc' := 14) rfl ?_
    refine zaload K (i := 2) V_zz (by decide) (mapAt (getDAt (d := 0) (by have := hI.1; omega))) d_method_5_14 (pc' := 15) rfl ?_
    refine ifN K d_method_5_15 (XT.i0_ne_f ((in5_z hI (by decide)).mpr (by rw [hT]; simp))) (pc' := 18) rfl ?_
    refine Jvm.OwnWp.aloadN K d_method_5_18 rfl rfl (pc' := 19) rfl ?_
    refine Jvm.OwnWp.iconst K (3 : Int32) d_method_5_19 (by decide) (pc' := 20) rfl ?_
    refine zaload K (i := 3) V_zz (by decide) (mapAt (getDAt (d := 0) (by have := hI.1; omega))) d_method_5_20 (pc' := 21) rfl ?_
    refine ifN K d_method_5_21 (XT.i0_ne_f ((in5_z hI (by decide)).mpr (by rw [hT]; simp))) (pc' := 24) rfl ?_
    refine Jvm.OwnWp.aloadN K d_method_5_24 rfl rfl (pc' := 25) rfl ?_
    refine Jvm.OwnWp.iconst K (4 : Int32) d_method_5_25 (by decide) (pc' := 26) rfl ?_
    refine zaload K (i := 4) V_zz (by decide) (mapAt (getDAt (d := 0) (by have := hI.1; omega))) d_method_5_26 (pc' := 27) rfl ?_
    refine ifY K d_method_5_27 (XT.i0_eq_t ((in5_z hI (by decide)).mpr (by rw [hT]; simp))) (pc' := 34) (by decide) (by decide) ?_
    refine Jvm.OwnWp.iconst K (0 : Int32) d_method_5_34 (by decide) (pc' := 35) rfl ?_
    refine Jvm.OwnWp.istoreN K d_method_5_35 (Ls' := #[.val (.ref b), .val (.ref aa), .val (.ref zz), .val (.int (0 : Int32)), .unset]) rfl (pc' := 36) rfl ?_
    refine Jvm.OwnWp.aloadN K d_method_5_36 rfl rfl (pc' := 37) rfl ?_
    refine callVirt K (y := (⟨"com/example/sightline/sightline/checker/ByActivity", "isEmpty", "()Z"⟩ : MethodName)) (b := b) (argsL := []) (S := []) (wd54 hw) (wd55 hw) (wd57 hw) (wd56 hw) (wd2 hw) (wd58 hw) (by decide) E (c_empty l Z a0 hw [] b (Int32.ofNat 0) h0 n0 Z0 cnt) (lenOf pd3 rfl) d_method_5_37 rfl (Nat.le_of_ble_eq_true rfl) (Nat.le_of_ble_eq_true rfl) (Nat.le_of_ble_eq_true rfl) (Nat.le_of_ble_eq_true rfl) rfl (pc' := 40) rfl ?_
    rintro v42 h42 ⟨rfl, rfl⟩
    show Go _ _ _ _ _ _ _ _ _ _ _ h0 0 0 (mkF m 40 #[.val (.ref b), .val (.ref aa), .val (.ref zz), .val (.int (0 : Int32)), .unset] [(.int (if Int32.ofNat 0 = 0 then 1 else 0))]) _
    rw [show (if Int32.ofNat 0 = 0 then (1 : Int32) else 0) = 1 from by decide]
    refine Jvm.OwnWp.iloadN K d_method_5_40 rfl (pc' := 41) rfl ?_
    refine icY K d_method_5_41 (by decide) (pc' := 46) (by decide) (by decide) ?_
    refine Jvm.OwnWp.iloadN K d_method_5_46 rfl (pc' := 47) rfl ?_
    refine ifN K d_method_5_47 (by decide) (pc' := 50) rfl ?_
    refine Jvm.OwnWp.iconst K (1 : Int32) d_method_5_50 (by decide) (pc' := 51) rfl ?_
    refine retB K (t := .boolean) rfl (by simp) d_method_5_51 (Nat.le_of_ble_eq_true rfl) (Nat.le_of_ble_eq_true rfl) ?_
    exact ⟨rfl, Nat.le_refl _, T, hJ'⟩
  · obtain ⟨-, G3, G4, G5, G6, hT', -⟩ | ⟨rfl, ka, ha, sa, Al, Hl, Sl, n, F_act, F_heap, F_slot, F_count, VA, VH, VS, ne_ka_b, ne_ha_b, ne_sa_b, ne_ha_ka, ne_sa_ka, ne_sa_ha, ge_ka, ge_ha, ge_sa, ne_aa_ka, ne_aa_ha, ne_aa_sa, ne_zz_ka, ne_zz_ha, ne_zz_sa, iv⟩ := hs
    · exact absurd hT' hT
    have P0 := Keep.refl h0 [b, aa, zz, ka, ha, sa]
    have hlen := inv_len iv
    have hn5 := iv.wf.2.2.1
    have hn0 : 0 < n := by
      rw [← hlen]; exact List.length_pos_iff.mpr hT
    have hnd := inv_nodup (by decide) iv
    have qb : ∀ x, q.getD x 0 ≤ 900 := fun x => by have := iv.bd x; omega
    have join : Go p l e ({ frames := 3, cells := 0, slots := 0, locals := 42 } : Room) s m #[(.ref b), (.ref aa), (.ref zz)] below meth c n0 h0 0 0 (mkF m 30 #[.val (.ref b), .val (.ref aa), .val (.ref zz), .unset, .unset] []) (fun v h => v = some (.int 1) ∧ h0.size ≤ h.size ∧ ∃ T' : List Nat, JJ true Z h n0 b aa zz B q T') := by
      refine Jvm.OwnWp.iconst K (1 : Int32) d_method_5_30 (by decide) (pc' := 31) rfl ?_
      refine goto' K d_method_5_31 (pc' := 35) (by decide) (by decide) ?_
      refine Jvm.OwnWp.istoreN K d_method_5_35 (Ls' := #[.val (.ref b), .val (.ref aa), .val (.ref zz), .val (.int (1 : Int32)), .unset]) rfl (pc' := 36) rfl ?_
      refine Jvm.OwnWp.aloadN K d_method_5_36 rfl rfl (pc' := 37) rfl ?_
      refine callVirt K (y := (⟨"com/example/sightline/sightline/checker/ByActivity", "isEmpty", "()Z"⟩ : MethodName)) (b := b) (argsL := []) (S := []) (wd54 hw) (wd55 hw) (wd57 hw) (wd56 hw) (wd2 hw) (wd58 hw) (by decide) E (c_empty l Z a0 hw [] b (Int32.ofNat n) h0 n0 Z0 F_count) (lenOf pd3 rfl) d_method_5_37 rfl (Nat.le_of_ble_eq_true rfl) (Nat.le_of_ble_eq_true rfl) (Nat.le_of_ble_eq_true rfl) (Nat.le_of_ble_eq_true rfl) rfl (pc' := 40) rfl ?_
      rintro v43 h43 ⟨rfl, rfl⟩
      show Go _ _ _ _ _ _ _ _ _ _ _ h0 0 0 (mkF m 40 #[.val (.ref b), .val (.ref aa), .val (.ref zz), .val (.int (1 : Int32)), .unset] [(.int (if Int32.ofNat n = 0 then 1 else 0))]) _
      rw [show (if Int32.ofNat n = 0 then (1 : Int32) else 0) = 0 from if_neg (fun q => by have := o_int (n := n) (by omega); rw [q] at this; simp at this; omega)]
      refine Jvm.OwnWp.iloadN K d_method_5_40 rfl (pc' := 41) rfl ?_
      refine icY K d_method_5_41 (by decide) (pc' := 46) (by decide) (by decide) ?_
      refine Jvm.OwnWp.iloadN K d_method_5_46 rfl (pc' := 47) rfl ?_
      refine ifY K d_method_5_47 (by decide) (pc' := 52) (by decide) (by decide) ?_
      refine Jvm.OwnWp.aloadN K d_method_5_52 rfl rfl (pc' := 53) rfl ?_
      obtain ⟨hr, hrT, hmax, iv'⟩ := inv_pop (by decide) iv hn0
      refine callVirt K (y := (⟨"com/example/sightline/sightline/checker/ByActivity", "pop", "()I"⟩ : MethodName)) (b := b) (argsL := []) (S := []) (wd59 hw) (wd60 hw) (wd62 hw) (wd61 hw) (wd2 hw) (wd63 hw) (by decide) E (c_pop l Z a0 hw [] b ka ha sa 5 n 4607182418800017408 Al Hl Sl h0 n0 Z0 iv.lA iv.wf.1 iv.wf.2.1 (by decide) (by decide) iv.wf.2.2.2.1 hn0 hn5 E F_act F_heap F_slot F_count F_gain F_choices VA VH VS ne_ka_b ne_ha_b ne_sa_b ne_ha_ka ne_sa_ka ne_sa_ha ge_b ge_ka ge_ha ge_sa) (lenOf pd4 rfl) d_method_5_53 rfl (Nat.le_of_ble_eq_true rfl) (Nat.le_of_ble_eq_true rfl) (Nat.le_of_ble_eq_true rfl) (Nat.le_of_ble_eq_true rfl) rfl (pc' := 56) rfl ?_
      rintro v44 h44 ⟨rfl, K44, Q44_E, Q44_F_act, Q44_F_heap, Q44_F_slot, Q44_F_count, Q44_F_gain, Q44_F_choices, Q44_VA, Q44_VH, Q44_VS⟩
      have X44_b := (Exa.keep E K44)
      have V44_aa := (V_aa.keep K44 (ninS ne_aa_b (ninS ne_aa_ha (ninS ne_aa_sa (nin0)))))
      have V44_zz := (V_zz.keep K44 (ninS ne_zz_b (ninS ne_zz_ha (ninS ne_zz_sa (nin0)))))
      have V44_ka := (VA.keep K44 (ninS ne_ka_b (ninS (Ne.symm ne_ha_ka) (ninS (Ne.symm ne_sa_ka) (nin0)))))
      have P44 := (P0.trans K44 (allS (Or.inl (List.mem_of_getElem? (i := 0) rfl)) (allS (Or.inl (List.mem_of_getElem? (i := 4) rfl)) (allS (Or.inl (List.mem_of_getElem? (i := 5) rfl)) (all0)))))
      show Go _ _ _ _ _ _ _ _ _ _ _ h44 0 0 (mkF m 56 #[.val (.ref b), .val (.ref aa), .val (.ref zz), .val (.int (1 : Int32)), .unset] [(.int (Int32.ofNat (Hl.getD 0 0)))]) _
      generalize Hl.getD 0 0 = r at *
      refine Jvm.OwnWp.istore K d_method_5_56 (Ls' := #[.val (.ref b), .val (.ref aa), .val (.ref zz), .val (.int (1 : Int32)), .val (.int (Int32.ofNat r))]) rfl (pc' := 58) rfl ?_
      refine Jvm.OwnWp.iload K d_method_5_58 rfl (pc' := 60) rfl ?_
      refine ifN K d_method_5_60 (XT.i0_lt_f (fun q => by rw [Int32.lt_iff_toInt_lt, o_int (by omega)] at q; simp at q; omega)) (pc' := 63) rfl ?_
      refine Jvm.OwnWp.iload K d_method_5_63 rfl (pc' := 65) rfl ?_
      refine Jvm.OwnWp.iconst K (5 : Int32) d_method_5_65 (by decide) (pc' := 66) rfl ?_
      refine icY K d_method_5_66 (XT.ii_lt_t ((o_lt (b := 5) (by omega) (by decide)).mpr hr)) (pc' := 71) (by decide) (by decide) ?_
      refine Jvm.OwnWp.aloadN K d_method_5_71 rfl rfl (pc' := 72) rfl ?_
      refine Jvm.OwnWp.iload K d_method_5_72 rfl (pc' := 74) rfl ?_
      refine zaload K (i := r) V44_zz (o_int (by omega)) (mapAt (getDAt (d := 0) (by have := hI.1; omega))) d_method_5_74 (pc' := 75) rfl ?_
      refine ifY K d_method_5_75 (XT.i0_ne_t (fun q => (in5_z hI hr).mp q hrT)) (pc' := 80) (by decide) (by decide) ?_
      refine Jvm.OwnWp.aloadN K d_method_5_80 rfl rfl (pc' := 81) rfl ?_
      refine Jvm.OwnWp.aloadN K d_method_5_81 rfl rfl (pc' := 82) rfl ?_
      refine Jvm.OwnWp.iconst K (0 : Int32) d_method_5_82 (by decide) (pc' := 83) rfl ?_
      refine Jvm.OwnWp.iload K d_method_5_83 rfl (pc' := 85) rfl ?_
      show Go _ _ _ _ _ _ _ _ _ _ _ h44 0 0 (mkF m 85 #[.val (.ref b), .val (.ref aa), .val (.ref zz), .val (.int (1 : Int32)), .val (.int (Int32.ofNat r))] [(.int (Int32.ofNat r)), (.int (Int32.ofNat 0)), (.ref zz), (.ref aa)]) _
      refine callStatic K (y := (⟨"com/example/sightline/sightline/checker/ByActivityPopPinLaw", "beats", "([I[ZII)Z"⟩ : MethodName)) (argsL := [(.ref aa), (.ref zz), (.int (Int32.ofNat 0)), (.int (Int32.ofNat r))]) (S := []) (wd64 hw) (wd65 hw) (wd17 hw) (wd66 hw) (by decide) (c_beats l Z a0 hw [] aa zz 0 r q I h44 n0 (Nat.le_trans Z0 P44.1) (by decide) hr hq hI.1 qb (fun z => hmax 0 (Decidable.byContradiction (fun t => z ((in5_z hI (by decide)).mpr t)))) V44_aa V44_zz) (lenOf pd5 rfl) d_method_5_85 rfl (Nat.le_of_ble_eq_true rfl) (Nat.le_of_ble_eq_true rfl) (Nat.le_of_ble_eq_true rfl) (Nat.le_of_ble_eq_true rfl) rfl (pc' := 88) rfl ?_
      rintro v45 h45 ⟨rfl, rfl⟩
      show Go _ _ _ _ _ _ _ _ _ _ _ h44 0 0 (mkF m 88 #[.val (.ref b), .val (.ref aa), .val (.ref zz), .val (.int (1 : Int32)), .val (.int (Int32.ofNat r))] [(.int (0 : Int32))]) _
      refine ifN K d_method_5_88 (by decide) (pc' := 91) rfl ?_
      refine Jvm.OwnWp.aloadN K d_method_5_91 rfl rfl (pc' := 92) rfl ?_
      refine Jvm.OwnWp.aloadN K d_method_5_92 rfl rfl (pc' := 93) rfl ?_
      refine Jvm.OwnWp.iconst K (1 : Int32) d_method_5_93 (by decide) (pc' := 94) rfl ?_
      refine Jvm.OwnWp.iload K d_method_5_94 rfl (pc' := 96) rfl ?_
      show Go _ _ _ _ _ _ _ _ _ _ _ h44 0 0 (mkF m 96 #[.val (.ref b), .val (.ref aa), .val (.ref zz), .val (.int (1 : Int32)), .val (.int (Int32.ofNat r))] [(.int (Int32.ofNat r)), (.int (Int32.ofNat 1)), (.ref zz), (.ref aa)]) _
      refine callStatic K (y := (⟨"com/example/sightline/sightline/checker/ByActivityPopPinLaw", "beats", "([I[ZII)Z"⟩ : MethodName)) (argsL := [(.ref aa), (.ref zz), (.int (Int32.ofNat 1)), (.int (Int32.ofNat r))]) (S := []) (wd64 hw) (wd65 hw) (wd17 hw) (wd66 hw) (by decide) (c_beats l Z a0 hw [] aa zz 1 r q I h44 n0 (Nat.le_trans Z0 P44.1) (by decide) hr hq hI.1 qb (fun z => hmax 1 (Decidable.byContradiction (fun t => z ((in5_z hI (by decide)).mpr t)))) V44_aa V44_zz) (lenOf pd5 rfl) d_method_5_96 rfl (Nat.le_of_ble_eq_true rfl) (Nat.le_of_ble_eq_true rfl) (Nat.le_of_ble_eq_true rfl) (Nat.le_of_ble_eq_true rfl) rfl (pc' := 99) rfl ?_
      rintro v46 h46 ⟨rfl, rfl⟩
      show Go _ _ _ _ _ _ _ _ _ _ _ h44 0 0 (mkF m 99 #[.val (.ref b), .val (.ref aa), .val (.ref zz), .val (.int (1 : Int32)), .val (.int (Int32.ofNat r))] [(.int (0 : Int32))]) _
      refine ifN K d_method_5_99 (by decide) (pc' := 102) rfl ?_
      refine Jvm.OwnWp.aloadN K d_method_5_102 rfl rfl (pc' := 103) rfl ?_
      refine Jvm.OwnWp.aloadN K d_method_5_103 rfl rfl (pc' := 104) rfl ?_
      refine Jvm.OwnWp.iconst K (2 : Int32) d_method_5_104 (by decide) (pc' := 105) rfl ?_
      refine Jvm.OwnWp.iload K d_method_5_105 rfl (pc' := 107) rfl ?_
      show Go _ _ _ _ _ _ _ _ _ _ _ h44 0 0 (mkF m 107 #[.val (.ref b), .val (.ref aa), .val (.ref zz), .val (.int (1 : Int32)), .val (.int (Int32.ofNat r))] [(.int (Int32.ofNat r)), (.int (Int32.ofNat 2)), (.ref zz), (.ref aa)]) _
      refine callStatic K (y := (⟨"com/example/sightline/sightline/checker/ByActivityPopPinLaw", "beats", "([I[ZII)Z"⟩ : MethodName)) (argsL := [(.ref aa), (.ref zz), (.int (Int32.ofNat 2)), (.int (Int32.ofNat r))]) (S := []) (wd64 hw) (wd65 hw) (wd17 hw) (wd66 hw) (by decide) (c_beats l Z a0 hw [] aa zz 2 r q I h44 n0 (Nat.le_trans Z0 P44.1) (by decide) hr hq hI.1 qb (fun z => hmax 2 (Decidable.byContradiction (fun t => z ((in5_z hI (by decide)).mpr t)))) V44_aa V44_zz) (lenOf pd5 rfl) d_method_5_107 rfl (Nat.le_of_ble_eq_true rfl) (Nat.le_of_ble_eq_true rfl) (Nat.le_of_ble_eq_true rfl) (Nat.le_of_ble_eq_true rfl) rfl (pc' := 110) rfl ?_
      rintro v47 h47 ⟨rfl, rfl⟩
      show Go _ _ _ _ _ _ _ _ _ _ _ h44 0 0 (mkF m 110 #[.val (.ref b), .val (.ref aa), .val (.ref zz), .val (.int (1 : Int32)), .val (.int (Int32.ofNat r))] [(.int (0 : Int32))]) _
      refine ifN K d_method_5_110 (by decide) (pc' := 113) rfl ?_
      refine Jvm.OwnWp.aloadN K d_method_5_113 rfl rfl (pc' := 114) rfl ?_
      refine Jvm.OwnWp.aloadN K d_method_5_114 rfl rfl (pc' := 115) rfl ?_
      refine Jvm.OwnWp.iconst K (3 : Int32) d_method_5_115 (by decide) (pc' := 116) rfl ?_
      refine Jvm.OwnWp.iload K d_method_5_116 rfl (pc' := 118) rfl ?_
      show Go _ _ _ _ _ _ _ _ _ _ _ h44 0 0 (mkF m 118 #[.val (.ref b), .val (.ref aa), .val (.ref zz), .val (.int (1 : Int32)), .val (.int (Int32.ofNat r))] [(.int (Int32.ofNat r)), (.int (Int32.ofNat 3)), (.ref zz), (.ref aa)]) _
      refine callStatic K (y := (⟨"com/example/sightline/sightline/checker/ByActivityPopPinLaw", "beats", "([I[ZII)Z"⟩ : MethodName)) (argsL := [(.ref aa), (.ref zz), (.int (Int32.ofNat 3)), (.int (Int32.ofNat r))]) (S := []) (wd64 hw) (wd65 hw) (wd17 hw) (wd66 hw) (by decide) (c_beats l Z a0 hw [] aa zz 3 r q I h44 n0 (Nat.le_trans Z0 P44.1) (by decide) hr hq hI.1 qb (fun z => hmax 3 (Decidable.byContradiction (fun t => z ((in5_z hI (by decide)).mpr t)))) V44_aa V44_zz) (lenOf pd5 rfl) d_method_5_118 rfl (Nat.le_of_ble_eq_true rfl) (Nat.le_of_ble_eq_true rfl) (Nat.le_of_ble_eq_true rfl) (Nat.le_of_ble_eq_true rfl) rfl (pc' := 121) rfl ?_
      rintro v48 h48 ⟨rfl, rfl⟩
      show Go _ _ _ _ _ _ _ _ _ _ _ h44 0 0 (mkF m 121 #[.val (.ref b), .val (.ref aa), .val (.ref zz), .val (.int (1 : Int32)), .val (.int (Int32.ofNat r))] [(.int (0 : Int32))]) _
      refine ifN K d_method_5_121 (by decide) (pc' := 124) rfl ?_
      refine Jvm.OwnWp.aloadN K d_method_5_124 rfl rfl (pc' := 125) rfl ?_
      refine Jvm.OwnWp.aloadN K d_method_5_125 rfl rfl (pc' := 126) rfl ?_
      refine Jvm.OwnWp.iconst K (4 : Int32) d_method_5_126 (by decide) (pc' := 127) rfl ?_
      refine Jvm.OwnWp.iload K d_method_5_127 rfl (pc' := 129) rfl ?_
      show Go _ _ _ _ _ _ _ _ _ _ _ h44 0 0 (mkF m 129 #[.val (.ref b), .val (.ref aa), .val (.ref zz), .val (.int (1 : Int32)), .val (.int (Int32.ofNat r))] [(.int (Int32.ofNat r)), (.int (Int32.ofNat 4)), (.ref zz), (.ref aa)]) _
      refine callStatic K (y := (⟨"com/example/sightline/sightline/checker/ByActivityPopPinLaw", "beats", "([I[ZII)Z"⟩ : MethodName)) (argsL := [(.ref aa), (.ref zz), (.int (Int32.ofNat 4)), (.int (Int32.ofNat r))]) (S := []) (wd64 hw) (wd65 hw) (wd17 hw) (wd66 hw) (by decide) (c_beats l Z a0 hw [] aa zz 4 r q I h44 n0 (Nat.le_trans Z0 P44.1) (by decide) hr hq hI.1 qb (fun z => hmax 4 (Decidable.byContradiction (fun t => z ((in5_z hI (by decide)).mpr t)))) V44_aa V44_zz) (lenOf pd5 rfl) d_method_5_129 rfl (Nat.le_of_ble_eq_true rfl) (Nat.le_of_ble_eq_true rfl) (Nat.le_of_ble_eq_true rfl) (Nat.le_of_ble_eq_true rfl) rfl (pc' := 132) rfl ?_
      rintro v49 h49 ⟨rfl, rfl⟩
      show Go _ _ _ _ _ _ _ _ _ _ _ h44 0 0 (mkF m 132 #[.val (.ref b), .val (.ref aa), .val (.ref zz), .val (.int (1 : Int32)), .val (.int (Int32.ofNat r))] [(.int (0 : Int32))]) _
      refine ifY K d_method_5_132 (by decide) (pc' := 137) (by decide) (by decide) ?_
      refine Jvm.OwnWp.aloadN K d_method_5_137 rfl rfl (pc' := 138) rfl ?_
      refine Jvm.OwnWp.iload K d_method_5_138 rfl (pc' := 140) rfl ?_
      refine Jvm.OwnWp.iconst K (0 : Int32) d_method_5_140 (by decide) (pc' := 141) rfl ?_
      refine zastore K (i := r) V44_zz (o_int (by omega)) (mapLt (by have := hI.1; omega)) ge_zz d_method_5_141 (pc' := 142) rfl ?_
      intro h50 W50
      have F50_activity_b := (Fld.other W50 Q44_F_act (Or.inl (Ne.symm ne_zz_b)))
      have F50_heap_b := (Fld.other W50 Q44_F_heap (Or.inl (Ne.symm ne_zz_b)))
      have F50_slot_b := (Fld.other W50 Q44_F_slot (Or.inl (Ne.symm ne_zz_b)))
      have F50_count_b := (Fld.other W50 Q44_F_count (Or.inl (Ne.symm ne_zz_b)))
      have F50_gain_b := (Fld.other W50 Q44_F_gain (Or.inl (Ne.symm ne_zz_b)))
      have F50_choices_b := (Fld.other W50 Q44_F_choices (Or.inl (Ne.symm ne_zz_b)))
      have X50_b := (Exa.wr W50 Q44_E)
      have V50_aa := (V44_aa.other W50 ne_aa_zz)
      have V50_ka := (Q44_VA.other W50 (Ne.symm ne_zz_ka))
      have V50_ha := (Q44_VH.other W50 (Ne.symm ne_zz_ha))
      have V50_sa := (Q44_VS.other W50 (Ne.symm ne_zz_sa))
      have P50 := (P44.wr W50 (Or.inl (List.mem_of_getElem? (i := 2) rfl)))
      have V50_zz := V44_zz.set W50
      refine Jvm.OwnWp.iconst K (1 : Int32) d_method_5_142 (by decide) (pc' := 143) rfl ?_
      refine retB K (t := .boolean) rfl (by simp) d_method_5_143 (Nat.le_of_ble_eq_true rfl) (Nat.le_of_ble_eq_true rfl) ?_
      exact ⟨rfl, P50.1, _, _, ⟨X50_b, ge_b, ge_aa, ge_zz, ne_aa_b, ne_zz_b, ne_aa_zz, V50_aa, V50_zz, F50_gain_b, F50_choices_b, (in5_del hI hr hnd), hq⟩, Or.inr ⟨rfl, ka, ha, sa, _, _, _, _, F50_activity_b, F50_heap_b, F50_slot_b, F50_count_b, V50_ka, V50_ha, V50_sa, ne_ka_b, ne_ha_b, ne_sa_b, ne_ha_ka, ne_sa_ka, ne_sa_ha, ge_ka, ge_ha, ge_sa, ne_aa_ka, ne_aa_ha, ne_aa_sa, ne_zz_ka, ne_zz_ha, ne_zz_sa, iv'⟩⟩
    refine Jvm.OwnWp.aloadN K d_method_5_0 rfl rfl (pc' := 1) rfl ?_
    refine Jvm.OwnWp.iconst K (0 : Int32) d_method_5_1 (by decide) (pc' := 2) rfl ?_
    refine zaload K (i := 0) V_zz (by decide) (mapAt (getDAt (d := 0) (by have := hI.1; omega))) d_method_5_2 (pc' := 3) rfl ?_
    by_cases z0 : I.getD 0 0 = 0
    rotate_left
    · refine ifY K d_method_5_3 (XT.i0_ne_t z0) (pc' := 30) (by decide) (by decide) ?_
      exact join
    refine ifN K d_method_5_3 (XT.i0_ne_f z0) (pc' := 6) rfl ?_
    refine Jvm.OwnWp.aloadN K d_method_5_6 rfl rfl (pc' := 7) rfl ?_
    refine Jvm.OwnWp.iconst K (1 : Int32) d_method_5_7 (by decide) (pc' := 8) rfl ?_
    refine zaload K (i := 1) V_zz (by decide) (mapAt (getDAt (d := 0) (by have := hI.1; omega))) d_method_5_8 (pc' := 9) rfl ?_
    by_cases z1 : I.getD 1 0 = 0
    rotate_left
    · refine ifY K d_method_5_9 (XT.i0_ne_t z1) (pc' := 30) (by decide) (by decide) ?_
      exact join
    refine ifN K d_method_5_9 (XT.i0_ne_f z1) (pc' := 12) rfl ?_
    refine Jvm.OwnWp.aloadN K d_method_5_12 rfl rfl (pc' := 13) rfl ?_
    refine Jvm.OwnWp.iconst K (2 : Int32) d_method_5_13 (by decide) (pc' := 14) rfl ?_
    refine zaload K (i := 2) V_zz (by decide) (mapAt (getDAt (d := 0) (by have := hI.1; omega))) d_method_5_14 (pc' := 15) rfl ?_
    by_cases z2 : I.getD 2 0 = 0
    rotate_left
    · refine ifY K d_method_5_15 (XT.i0_ne_t z2) (pc' := 30) (by decide) (by decide) ?_
      exact join
    refine ifN K d_method_5_15 (XT.i0_ne_f z2) (pc' := 18) rfl ?_
    refine Jvm.OwnWp.aloadN K d_method_5_18 rfl rfl (pc' := 19) rfl ?_
    refine Jvm.OwnWp.iconst K (3 : Int32) d_method_5_19 (by decide) (pc' := 20) rfl ?_
    refine zaload K (i := 3) V_zz (by decide) (mapAt (getDAt (d := 0) (by have := hI.1; omega))) d_method_5_20 (pc' := 21) rfl ?_
    by_cases z3 : I.getD 3 0 = 0
    rotate_left
    · refine ifY K d_method_5_21 (XT.i0_ne_t z3) (pc' := 30) (by decide) (by decide) ?_
      exact join
    refine ifN K d_method_5_21 (XT.i0_ne_f z3) (pc' := 24) rfl ?_
    refine Jvm.OwnWp.aloadN K d_method_5_24 rfl rfl (pc' := 25) rfl ?_
    refine Jvm.OwnWp.iconst K (4 : Int32) d_method_5_25 (by decide) (pc' := 26) rfl ?_
    refine zaload K (i := 4) V_zz (by decide) (mapAt (getDAt (d := 0) (by have := hI.1; omega))) d_method_5_26 (pc' := 27) rfl ?_
    by_cases z4 : I.getD 4 0 = 0
    rotate_left
    · refine ifN K d_method_5_27 (XT.i0_eq_f z4) (pc' := 30) rfl ?_
      exact join
    exact absurd (List.eq_nil_iff_forall_not_mem.mpr (fun x hx => by
      have hx5 := inv_lt iv hx
      have : I.getD x 0 = 0 := by
        match x, hx5 with
        | 0, _ => exact z0
        | 1, _ => exact z1
        | 2, _ => exact z2
        | 3, _ => exact z3
        | 4, _ => exact z4
      exact (in5_z hI hx5).mp this hx)) hT
set_option maxRecDepth 65536 in
set_option maxHeartbeats 40000000 in
theorem c_law (l : Launch) (Z : State) (a0 : Array Value) (hw : ∀ d ∈ tables_1, d.before a0 Z = true) (ws : List Jvm.Cond) (p0 p1 p2 : Int32) (h0 : Heap) (n0 : Nat) (Z0 : n0 ≤ h0.size) :
    Ctr l Z x code maxLocals ret ws room_1 n0 #[(.int p0), (.int p1), (.int p2)] h0 (fun v h => v = some (.int 1)) := by
  refine ctr (own := "com/example/sightline/sightline/checker/ByActivityPopPinLaw") (nm := "law") rfl rfl (Ls := #[.val (.int p0), .val (.int p1), .val (.int p2), .unset, .unset, .unset, .unset, .unset, .unset]) (plainFor_of_name pn2) (fun m => by first | (simp [entryFrame, mkF, argsToLocals, Value.category, maxLocals]; done) | rfl) ?_
  intro p e s m below meth c K eh
  have P0 := Keep.refl h0 []
  refine newObj K (wd0 hw) (wd1 hw) (wd2 hw) at_0 (by decide) (by decide) (pc' := 3) rfl ?_
  intro h51 b51 g51 E51 A51 D51
  have lt_b51 : h0.size ≤ b51 := Nat.le_trans P0.1 (Nat.le_of_eq g51.symm)
  have ge_b51 : n0 ≤ b51 := Nat.le_trans Z0 lt_b51
  have P51 := (P0.ext E51)
  have F51_gain_b51 : Fld Z h51 b51 "com/example/sightline/sightline/checker/ByActivity" "gain" "D" (.double (0 : UInt64)) := D51 (Or.inl (wd10 hw)) (ty := .double) (by decide)
  have F51_choices_b51 : Fld Z h51 b51 "com/example/sightline/sightline/checker/ByActivity" "choices" "I" (.int (0 : Int32)) := D51 (Or.inr (wd12 hw)) (ty := .int) (by decide)
  have F51_activity_b51 : Fld Z h51 b51 "com/example/sightline/sightline/checker/ByActivity" "activity" "[D" .null := D51 (Or.inl (wd25 hw)) (ty := (.array .double)) (by decide)
  have F51_heap_b51 : Fld Z h51 b51 "com/example/sightline/sightline/checker/ByActivity" "heap" "[I" .null := D51 (Or.inl (wd28 hw)) (ty := (.array .int)) (by decide)
  have F51_slot_b51 : Fld Z h51 b51 "com/example/sightline/sightline/checker/ByActivity" "slot" "[I" .null := D51 (Or.inl (wd30 hw)) (ty := (.array .int)) (by decide)
  have F51_count_b51 : Fld Z h51 b51 "com/example/sightline/sightline/checker/ByActivity" "count" "I" (.int (0 : Int32)) := D51 (Or.inl (wd42 hw)) (ty := .int) (by decide)
  refine Jvm.OwnWp.dup K at_3 rfl (pc' := 4) rfl ?_
  refine Jvm.OwnWp.iconst K (5 : Int32) at_4 (by decide) (pc' := 5) rfl ?_
  refine callInit K (y := (⟨"com/example/sightline/sightline/checker/ByActivity", "<init>", "(I)V"⟩ : MethodName)) (b := b51) (argsL := [(.int (5 : Int32))]) (S := [(.ref b51)]) rfl (wd3 hw) (wd4 hw) (wd2 hw) (wd5 hw) rfl (by decide) (c_init l Z a0 hw [] b51 5 h51 n0 (Nat.le_trans Z0 P51.1) A51 ge_b51 F51_gain_b51 F51_choices_b51 F51_activity_b51 F51_heap_b51 F51_slot_b51 F51_count_b51) (lenOf pd1 rfl) at_5 rfl (Nat.le_of_ble_eq_true rfl) (Nat.le_of_ble_eq_true rfl) (Nat.le_of_ble_eq_true rfl) (Nat.le_of_ble_eq_true rfl) rfl (pc' := 8) rfl ?_
  rintro v52 h52 ⟨rfl, K52, I52_gain, I52_choices, I52_activity, I52_heap, I52_slot, I52_count⟩
  have X52_b51 := (Exa.keep A51 K52)
  have P52 := (P51.trans K52 (allS (Or.inr lt_b51) (all0)))
  show Go _ _ _ _ _ _ _ _ _ _ _ h52 1 6 (mkF m 8 #[.val (.int p0), .val (.int p1), .val (.int p2), .unset, .unset, .unset, .unset, .unset, .unset] [(.ref b51)]) _
  refine Jvm.OwnWp.astoreN K at_8 rfl (Ls' := #[.val (.int p0), .val (.int p1), .val (.int p2), .val (.ref b51), .unset, .unset, .unset, .unset, .unset]) rfl (pc' := 9) rfl ?_
  refine Jvm.OwnWp.iconst K (5 : Int32) at_9 (by decide) (pc' := 10) rfl ?_
  refine newArr K (aty := ArrayType.int) (N := 5) (wd13 hw) (by decide) (by decide) at_10 (Nat.le_of_ble_eq_true rfl) (Nat.le_of_ble_eq_true rfl) (pc' := 12) rfl ?_
  intro h53 b53 g53 E53 A53
  have ne_b51_b53 : b51 ≠ b53 := Nat.ne_of_lt (Nat.lt_of_lt_of_eq (Exa.lt X52_b51) g53.symm)
  have lt_b53 : h0.size ≤ b53 := Nat.le_trans P52.1 (Nat.le_of_eq g53.symm)
  have ge_b53 : n0 ≤ b53 := Nat.le_trans Z0 lt_b53
  have F53_gain_b51 := (Fld.ext E53 I52_gain)
  have F53_choices_b51 := (Fld.ext E53 I52_choices)
  have F53_activity_b51 := (Fld.ext E53 I52_activity)
  have F53_heap_b51 := (Fld.ext E53 I52_heap)
  have F53_slot_b51 := (Fld.ext E53 I52_slot)
  have F53_count_b51 := (Fld.ext E53 I52_count)
  have X53_b51 := (Exa.ext E53 X52_b51)
  have P53 := (P52.ext E53)
  have A53 := HV.new A53
  refine Jvm.OwnWp.astore K at_12 rfl (Ls' := #[.val (.int p0), .val (.int p1), .val (.int p2), .val (.ref b51), .val (.ref b53), .unset, .unset, .unset, .unset]) rfl (pc' := 14) rfl ?_
  refine Jvm.OwnWp.iconst K (5 : Int32) at_14 (by decide) (pc' := 15) rfl ?_
  refine newArr K (aty := ArrayType.boolean) (N := 5) (wd14 hw) (by decide) (by decide) at_15 (Nat.le_of_ble_eq_true rfl) (Nat.le_of_ble_eq_true rfl) (pc' := 17) rfl ?_
  intro h54 b54 g54 E54 A54
  have ne_b51_b54 : b51 ≠ b54 := Nat.ne_of_lt (Nat.lt_of_lt_of_eq (Exa.lt X53_b51) g54.symm)
  have ne_b53_b54 : b53 ≠ b54 := Nat.ne_of_lt (Nat.lt_of_lt_of_eq (A53.lt) g54.symm)
  have lt_b54 : h0.size ≤ b54 := Nat.le_trans P53.1 (Nat.le_of_eq g54.symm)
  have ge_b54 : n0 ≤ b54 := Nat.le_trans Z0 lt_b54
  have F54_gain_b51 := (Fld.ext E54 F53_gain_b51)
  have F54_choices_b51 := (Fld.ext E54 F53_choices_b51)
  have F54_activity_b51 := (Fld.ext E54 F53_activity_b51)
  have F54_heap_b51 := (Fld.ext E54 F53_heap_b51)
  have F54_slot_b51 := (Fld.ext E54 F53_slot_b51)
  have F54_count_b51 := (Fld.ext E54 F53_count_b51)
  have X54_b51 := (Exa.ext E54 X53_b51)
  have V54_b53 := (A53.ext E54)
  have P54 := (P53.ext E54)
  have A54 := ZV.new A54
  have J0 : JJ false Z h54 n0 b51 b53 b54 0 (List.replicate 5 0) [] := ⟨_, ⟨X54_b51, ge_b51, ge_b53, ge_b54, (Ne.symm ne_b51_b53), (Ne.symm ne_b51_b54), ne_b53_b54, V54_b53, A54, F54_gain_b51, F54_choices_b51, ⟨List.length_replicate .., by decide⟩, List.length_replicate ..⟩, Or.inl ⟨rfl, F54_activity_b51, F54_heap_b51, F54_slot_b51, F54_count_b51, rfl, rfl⟩⟩
  have z0 : n0 ≤ h54.size := Nat.le_trans Z0 P54.1
  refine Jvm.OwnWp.astore K at_17 rfl (Ls' := #[.val (.int p0), .val (.int p1), .val (.int p2), .val (.ref b51), .val (.ref b53), .val (.ref b54), .unset, .unset, .unset]) rfl (pc' := 19) rfl ?_
  refine Jvm.OwnWp.iloadN K at_19 rfl (pc' := 20) rfl ?_
  refine Jvm.OwnWp.bipush K (7 : Int32) at_20 (by decide) (pc' := 22) rfl ?_
  refine Jvm.OwnWp.iand K at_22 (pc' := 23) rfl ?_
  refine Jvm.OwnWp.istore K at_23 (Ls' := #[.val (.int p0), .val (.int p1), .val (.int p2), .val (.ref b51), .val (.ref b53), .val (.ref b54), .val (.int (p2 &&& (7 : Int32))), .unset, .unset]) rfl (pc' := 25) rfl ?_
  refine Jvm.OwnWp.iloadN K at_25 rfl (pc' := 26) rfl ?_
  refine Jvm.OwnWp.iconst K (3 : Int32) at_26 (by decide) (pc' := 27) rfl ?_
  refine Jvm.OwnWp.iushr K at_27 (pc' := 28) rfl ?_
  refine Jvm.OwnWp.iconst K (3 : Int32) at_28 (by decide) (pc' := 29) rfl ?_
  refine Jvm.OwnWp.iand K at_29 (pc' := 30) rfl ?_
  refine Jvm.OwnWp.istore K at_30 (Ls' := #[.val (.int p0), .val (.int p1), .val (.int p2), .val (.ref b51), .val (.ref b53), .val (.ref b54), .val (.int (p2 &&& (7 : Int32))), .val (.int (((p2.toUInt32 >>> ((3 : Int32) &&& 31).toUInt32).toInt32) &&& (3 : Int32))), .unset]) rfl (pc' := 32) rfl ?_
  by_cases ck : (0 : Int32) < (p2 &&& (7 : Int32))
  · refine Jvm.OwnWp.aloadN K at_32 rfl rfl (pc' := 33) rfl ?_
    refine Jvm.OwnWp.aload K at_33 rfl rfl (pc' := 35) rfl ?_
    refine Jvm.OwnWp.aload K at_35 rfl rfl (pc' := 37) rfl ?_
    refine Jvm.OwnWp.iloadN K at_37 rfl (pc' := 38) rfl ?_
    refine Jvm.OwnWp.iconst K (0 : Int32) at_38 (by decide) (pc' := 39) rfl ?_
    refine Jvm.OwnWp.iload K at_39 rfl (pc' := 41) rfl ?_
    refine callStatic K (y := (⟨"com/example/sightline/sightline/checker/ByActivityPopPinLaw", "bumpIf", "(Lcom/example/sightline/sightline/checker/ByActivity;[I[ZIII)V"⟩ : MethodName)) (argsL := [(.ref b51), (.ref b53), (.ref b54), (.int p0), (.int (0 : Int32)), (.int (p2 &&& (7 : Int32)))]) (S := []) (wd15 hw) (wd16 hw) (wd17 hw) (wd18 hw) (by decide) (c_bifU l Z a0 hw [] b51 b53 b54 p0 (0 : Int32) (p2 &&& (7 : Int32)) 0 (List.replicate 5 0) [] h54 n0 z0 (by decide) ck J0) (lenOf pd6 rfl) at_41 rfl (Nat.le_of_ble_eq_true rfl) (Nat.le_of_ble_eq_true rfl) (Nat.le_of_ble_eq_true rfl) (Nat.le_of_ble_eq_true rfl) rfl (pc' := 44) rfl ?_
    rintro v55 h55 ⟨rfl, s55, q55, T55, J55⟩
    show Go _ _ _ _ _ _ _ _ _ _ _ h55 6 31 (mkF m 44 #[.val (.int p0), .val (.int p1), .val (.int p2), .val (.ref b51), .val (.ref b53), .val (.ref b54), .val (.int (p2 &&& (7 : Int32))), .val (.int (((p2.toUInt32 >>> ((3 : Int32) &&& 31).toUInt32).toInt32) &&& (3 : Int32))), .unset] []) _
    have z55 := Nat.le_trans z0 s55
    refine Jvm.OwnWp.aloadN K at_44 rfl rfl (pc' := 45) rfl ?_
    refine Jvm.OwnWp.aload K at_45 rfl rfl (pc' := 47) rfl ?_
    refine Jvm.OwnWp.aload K at_47 rfl rfl (pc' := 49) rfl ?_
    refine Jvm.OwnWp.iloadN K at_49 rfl (pc' := 50) rfl ?_
    refine Jvm.OwnWp.iconst K (1 : Int32) at_50 (by decide) (pc' := 51) rfl ?_
    refine Jvm.OwnWp.iload K at_51 rfl (pc' := 53) rfl ?_
    refine callStatic K (y := (⟨"com/example/sightline/sightline/checker/ByActivityPopPinLaw", "bumpIf", "(Lcom/example/sightline/sightline/checker/ByActivity;[I[ZIII)V"⟩ : MethodName)) (argsL := [(.ref b51), (.ref b53), (.ref b54), (.int p0), (.int (1 : Int32)), (.int (p2 &&& (7 : Int32)))]) (S := []) (wd15 hw) (wd16 hw) (wd17 hw) (wd18 hw) (by decide) (c_bifB l Z a0 hw [] b51 b53 b54 p0 (1 : Int32) (p2 &&& (7 : Int32)) 1 q55 T55 h55 n0 z55 (by decide) J55) (lenOf pd6 rfl) at_53 rfl (Nat.le_of_ble_eq_true rfl) (Nat.le_of_ble_eq_true rfl) (Nat.le_of_ble_eq_true rfl) (Nat.le_of_ble_eq_true rfl) rfl (pc' := 56) rfl ?_
    rintro v56 h56 ⟨rfl, s56, q56, T56, J56⟩
    show Go _ _ _ _ _ _ _ _ _ _ _ h56 6 31 (mkF m 56 #[.val (.int p0), .val (.int p1), .val (.int p2), .val (.ref b51), .val (.ref b53), .val (.ref b54), .val (.int (p2 &&& (7 : Int32))), .val (.int (((p2.toUInt32 >>> ((3 : Int32) &&& 31).toUInt32).toInt32) &&& (3 : Int32))), .unset] []) _
    have z56 := Nat.le_trans z55 s56
    refine Jvm.OwnWp.aloadN K at_56 rfl rfl (pc' := 57) rfl ?_
    refine Jvm.OwnWp.aload K at_57 rfl rfl (pc' := 59) rfl ?_
    refine Jvm.OwnWp.aload K at_59 rfl rfl (pc' := 61) rfl ?_
    refine Jvm.OwnWp.iloadN K at_61 rfl (pc' := 62) rfl ?_
    refine Jvm.OwnWp.iconst K (2 : Int32) at_62 (by decide) (pc' := 63) rfl ?_
    refine Jvm.OwnWp.iload K at_63 rfl (pc' := 65) rfl ?_
    refine callStatic K (y := (⟨"com/example/sightline/sightline/checker/ByActivityPopPinLaw", "bumpIf", "(Lcom/example/sightline/sightline/checker/ByActivity;[I[ZIII)V"⟩ : MethodName)) (argsL := [(.ref b51), (.ref b53), (.ref b54), (.int p0), (.int (2 : Int32)), (.int (p2 &&& (7 : Int32)))]) (S := []) (wd15 hw) (wd16 hw) (wd17 hw) (wd18 hw) (by decide) (c_bifB l Z a0 hw [] b51 b53 b54 p0 (2 : Int32) (p2 &&& (7 : Int32)) 2 q56 T56 h56 n0 z56 (by decide) J56) (lenOf pd6 rfl) at_65 rfl (Nat.le_of_ble_eq_true rfl) (Nat.le_of_ble_eq_true rfl) (Nat.le_of_ble_eq_true rfl) (Nat.le_of_ble_eq_true rfl) rfl (pc' := 68) rfl ?_
    rintro v57 h57 ⟨rfl, s57, q57, T57, J57⟩
    show Go _ _ _ _ _ _ _ _ _ _ _ h57 6 31 (mkF m 68 #[.val (.int p0), .val (.int p1), .val (.int p2), .val (.ref b51), .val (.ref b53), .val (.ref b54), .val (.int (p2 &&& (7 : Int32))), .val (.int (((p2.toUInt32 >>> ((3 : Int32) &&& 31).toUInt32).toInt32) &&& (3 : Int32))), .unset] []) _
    have z57 := Nat.le_trans z56 s57
    refine Jvm.OwnWp.aloadN K at_68 rfl rfl (pc' := 69) rfl ?_
    refine Jvm.OwnWp.aload K at_69 rfl rfl (pc' := 71) rfl ?_
    refine Jvm.OwnWp.aload K at_71 rfl rfl (pc' := 73) rfl ?_
    refine Jvm.OwnWp.iloadN K at_73 rfl (pc' := 74) rfl ?_
    refine Jvm.OwnWp.iconst K (3 : Int32) at_74 (by decide) (pc' := 75) rfl ?_
    refine Jvm.OwnWp.iload K at_75 rfl (pc' := 77) rfl ?_
    refine callStatic K (y := (⟨"com/example/sightline/sightline/checker/ByActivityPopPinLaw", "bumpIf", "(Lcom/example/sightline/sightline/checker/ByActivity;[I[ZIII)V"⟩ : MethodName)) (argsL := [(.ref b51), (.ref b53), (.ref b54), (.int p0), (.int (3 : Int32)), (.int (p2 &&& (7 : Int32)))]) (S := []) (wd15 hw) (wd16 hw) (wd17 hw) (wd18 hw) (by decide) (c_bifB l Z a0 hw [] b51 b53 b54 p0 (3 : Int32) (p2 &&& (7 : Int32)) 3 q57 T57 h57 n0 z57 (by decide) J57) (lenOf pd6 rfl) at_77 rfl (Nat.le_of_ble_eq_true rfl) (Nat.le_of_ble_eq_true rfl) (Nat.le_of_ble_eq_true rfl) (Nat.le_of_ble_eq_true rfl) rfl (pc' := 80) rfl ?_
    rintro v58 h58 ⟨rfl, s58, q58, T58, J58⟩
    show Go _ _ _ _ _ _ _ _ _ _ _ h58 6 31 (mkF m 80 #[.val (.int p0), .val (.int p1), .val (.int p2), .val (.ref b51), .val (.ref b53), .val (.ref b54), .val (.int (p2 &&& (7 : Int32))), .val (.int (((p2.toUInt32 >>> ((3 : Int32) &&& 31).toUInt32).toInt32) &&& (3 : Int32))), .unset] []) _
    have z58 := Nat.le_trans z57 s58
    refine Jvm.OwnWp.aloadN K at_80 rfl rfl (pc' := 81) rfl ?_
    refine Jvm.OwnWp.aload K at_81 rfl rfl (pc' := 83) rfl ?_
    refine Jvm.OwnWp.aload K at_83 rfl rfl (pc' := 85) rfl ?_
    refine Jvm.OwnWp.iloadN K at_85 rfl (pc' := 86) rfl ?_
    refine Jvm.OwnWp.iconst K (4 : Int32) at_86 (by decide) (pc' := 87) rfl ?_
    refine Jvm.OwnWp.iload K at_87 rfl (pc' := 89) rfl ?_
    refine callStatic K (y := (⟨"com/example/sightline/sightline/checker/ByActivityPopPinLaw", "bumpIf", "(Lcom/example/sightline/sightline/checker/ByActivity;[I[ZIII)V"⟩ : MethodName)) (argsL := [(.ref b51), (.ref b53), (.ref b54), (.int p0), (.int (4 : Int32)), (.int (p2 &&& (7 : Int32)))]) (S := []) (wd15 hw) (wd16 hw) (wd17 hw) (wd18 hw) (by decide) (c_bifB l Z a0 hw [] b51 b53 b54 p0 (4 : Int32) (p2 &&& (7 : Int32)) 4 q58 T58 h58 n0 z58 (by decide) J58) (lenOf pd6 rfl) at_89 rfl (Nat.le_of_ble_eq_true rfl) (Nat.le_of_ble_eq_true rfl) (Nat.le_of_ble_eq_true rfl) (Nat.le_of_ble_eq_true rfl) rfl (pc' := 92) rfl ?_
    rintro v59 h59 ⟨rfl, s59, q59, T59, J59⟩
    show Go _ _ _ _ _ _ _ _ _ _ _ h59 6 31 (mkF m 92 #[.val (.int p0), .val (.int p1), .val (.int p2), .val (.ref b51), .val (.ref b53), .val (.ref b54), .val (.int (p2 &&& (7 : Int32))), .val (.int (((p2.toUInt32 >>> ((3 : Int32) &&& 31).toUInt32).toInt32) &&& (3 : Int32))), .unset] []) _
    have z59 := Nat.le_trans z58 s59
    refine Jvm.OwnWp.aloadN K at_92 rfl rfl (pc' := 93) rfl ?_
    refine Jvm.OwnWp.aload K at_93 rfl rfl (pc' := 95) rfl ?_
    refine Jvm.OwnWp.aload K at_95 rfl rfl (pc' := 97) rfl ?_
    refine Jvm.OwnWp.iloadN K at_97 rfl (pc' := 98) rfl ?_
    refine Jvm.OwnWp.iconst K (5 : Int32) at_98 (by decide) (pc' := 99) rfl ?_
    refine Jvm.OwnWp.iload K at_99 rfl (pc' := 101) rfl ?_
    refine callStatic K (y := (⟨"com/example/sightline/sightline/checker/ByActivityPopPinLaw", "bumpIf", "(Lcom/example/sightline/sightline/checker/ByActivity;[I[ZIII)V"⟩ : MethodName)) (argsL := [(.ref b51), (.ref b53), (.ref b54), (.int p0), (.int (5 : Int32)), (.int (p2 &&& (7 : Int32)))]) (S := []) (wd15 hw) (wd16 hw) (wd17 hw) (wd18 hw) (by decide) (c_bifB l Z a0 hw [] b51 b53 b54 p0 (5 : Int32) (p2 &&& (7 : Int32)) 5 q59 T59 h59 n0 z59 (by decide) J59) (lenOf pd6 rfl) at_101 rfl (Nat.le_of_ble_eq_true rfl) (Nat.le_of_ble_eq_true rfl) (Nat.le_of_ble_eq_true rfl) (Nat.le_of_ble_eq_true rfl) rfl (pc' := 104) rfl ?_
    rintro v60 h60 ⟨rfl, s60, q60, T60, J60⟩
    show Go _ _ _ _ _ _ _ _ _ _ _ h60 6 31 (mkF m 104 #[.val (.int p0), .val (.int p1), .val (.int p2), .val (.ref b51), .val (.ref b53), .val (.ref b54), .val (.int (p2 &&& (7 : Int32))), .val (.int (((p2.toUInt32 >>> ((3 : Int32) &&& 31).toUInt32).toInt32) &&& (3 : Int32))), .unset] []) _
    have z60 := Nat.le_trans z59 s60
    refine Jvm.OwnWp.aloadN K at_104 rfl rfl (pc' := 105) rfl ?_
    refine Jvm.OwnWp.aload K at_105 rfl rfl (pc' := 107) rfl ?_
    refine Jvm.OwnWp.aload K at_107 rfl rfl (pc' := 109) rfl ?_
    refine Jvm.OwnWp.iloadN K at_109 rfl (pc' := 110) rfl ?_
    refine Jvm.OwnWp.bipush K (6 : Int32) at_110 (by decide) (pc' := 112) rfl ?_
    refine Jvm.OwnWp.iload K at_112 rfl (pc' := 114) rfl ?_
    refine callStatic K (y := (⟨"com/example/sightline/sightline/checker/ByActivityPopPinLaw", "bumpIf", "(Lcom/example/sightline/sightline/checker/ByActivity;[I[ZIII)V"⟩ : MethodName)) (argsL := [(.ref b51), (.ref b53), (.ref b54), (.int p0), (.int (6 : Int32)), (.int (p2 &&& (7 : Int32)))]) (S := []) (wd15 hw) (wd16 hw) (wd17 hw) (wd18 hw) (by decide) (c_bifB l Z a0 hw [] b51 b53 b54 p0 (6 : Int32) (p2 &&& (7 : Int32)) 6 q60 T60 h60 n0 z60 (by decide) J60) (lenOf pd6 rfl) at_114 rfl (Nat.le_of_ble_eq_true rfl) (Nat.le_of_ble_eq_true rfl) (Nat.le_of_ble_eq_true rfl) (Nat.le_of_ble_eq_true rfl) rfl (pc' := 117) rfl ?_
    rintro v61 h61 ⟨rfl, s61, q61, T61, J61⟩
    show Go _ _ _ _ _ _ _ _ _ _ _ h61 6 31 (mkF m 117 #[.val (.int p0), .val (.int p1), .val (.int p2), .val (.ref b51), .val (.ref b53), .val (.ref b54), .val (.int (p2 &&& (7 : Int32))), .val (.int (((p2.toUInt32 >>> ((3 : Int32) &&& 31).toUInt32).toInt32) &&& (3 : Int32))), .unset] []) _
    have z61 := Nat.le_trans z60 s61
    refine Jvm.OwnWp.aloadN K at_117 rfl rfl (pc' := 118) rfl ?_
    refine Jvm.OwnWp.aload K at_118 rfl rfl (pc' := 120) rfl ?_
    refine Jvm.OwnWp.aload K at_120 rfl rfl (pc' := 122) rfl ?_
    refine callStatic K (y := (⟨"com/example/sightline/sightline/checker/ByActivityPopPinLaw", "popCheck", "(Lcom/example/sightline/sightline/checker/ByActivity;[I[Z)Z"⟩ : MethodName)) (argsL := [(.ref b51), (.ref b53), (.ref b54)]) (S := []) (wd51 hw) (wd52 hw) (wd17 hw) (wd53 hw) (by decide) (c_pc l Z a0 hw [] b51 b53 b54 7 q61 T61 true h61 n0 z61 (by decide) J61) (lenOf pd7 rfl) at_122 rfl (Nat.le_of_ble_eq_true rfl) (Nat.le_of_ble_eq_true rfl) (Nat.le_of_ble_eq_true rfl) (Nat.le_of_ble_eq_true rfl) rfl (pc' := 125) rfl ?_
    rintro v62 h62 ⟨rfl, s62, T62, J62⟩
    show Go _ _ _ _ _ _ _ _ _ _ _ h62 6 31 (mkF m 125 #[.val (.int p0), .val (.int p1), .val (.int p2), .val (.ref b51), .val (.ref b53), .val (.ref b54), .val (.int (p2 &&& (7 : Int32))), .val (.int (((p2.toUInt32 >>> ((3 : Int32) &&& 31).toUInt32).toInt32) &&& (3 : Int32))), .unset] [(.int (1 : Int32))]) _
    have z62 := Nat.le_trans z61 s62
    refine Jvm.OwnWp.istore K at_125 (Ls' := #[.val (.int p0), .val (.int p1), .val (.int p2), .val (.ref b51), .val (.ref b53), .val (.ref b54), .val (.int (p2 &&& (7 : Int32))), .val (.int (((p2.toUInt32 >>> ((3 : Int32) &&& 31).toUInt32).toInt32) &&& (3 : Int32))), .val (.int (1 : Int32))]) rfl (pc' := 127) rfl ?_
    refine Jvm.OwnWp.aloadN K at_127 rfl rfl (pc' := 128) rfl ?_
    refine Jvm.OwnWp.aload K at_128 rfl rfl (pc' := 130) rfl ?_
    refine Jvm.OwnWp.aload K at_130 rfl rfl (pc' := 132) rfl ?_
    refine Jvm.OwnWp.iloadN K at_132 rfl (pc' := 133) rfl ?_
    refine Jvm.OwnWp.iconst K (0 : Int32) at_133 (by decide) (pc' := 134) rfl ?_
    refine Jvm.OwnWp.iload K at_134 rfl (pc' := 136) rfl ?_
    refine callStatic K (y := (⟨"com/example/sightline/sightline/checker/ByActivityPopPinLaw", "bumpIf", "(Lcom/example/sightline/sightline/checker/ByActivity;[I[ZIII)V"⟩ : MethodName)) (argsL := [(.ref b51), (.ref b53), (.ref b54), (.int p1), (.int (0 : Int32)), (.int (((p2.toUInt32 >>> ((3 : Int32) &&& 31).toUInt32).toInt32) &&& (3 : Int32)))]) (S := []) (wd15 hw) (wd16 hw) (wd17 hw) (wd18 hw) (by decide) (c_bifB l Z a0 hw [] b51 b53 b54 p1 (0 : Int32) (((p2.toUInt32 >>> ((3 : Int32) &&& 31).toUInt32).toInt32) &&& (3 : Int32)) 7 q61 T62 h62 n0 z62 (by decide) J62) (lenOf pd6 rfl) at_136 rfl (Nat.le_of_ble_eq_true rfl) (Nat.le_of_ble_eq_true rfl) (Nat.le_of_ble_eq_true rfl) (Nat.le_of_ble_eq_true rfl) rfl (pc' := 139) rfl ?_
    rintro v63 h63 ⟨rfl, s63, q63, T63, J63⟩
    show Go _ _ _ _ _ _ _ _ _ _ _ h63 6 31 (mkF m 139 #[.val (.int p0), .val (.int p1), .val (.int p2), .val (.ref b51), .val (.ref b53), .val (.ref b54), .val (.int (p2 &&& (7 : Int32))), .val (.int (((p2.toUInt32 >>> ((3 : Int32) &&& 31).toUInt32).toInt32) &&& (3 : Int32))), .val (.int (1 : Int32))] []) _
    have z63 := Nat.le_trans z62 s63
    refine Jvm.OwnWp.aloadN K at_139 rfl rfl (pc' := 140) rfl ?_
    refine Jvm.OwnWp.aload K at_140 rfl rfl (pc' := 142) rfl ?_
    refine Jvm.OwnWp.aload K at_142 rfl rfl (pc' := 144) rfl ?_
    refine Jvm.OwnWp.iloadN K at_144 rfl (pc' := 145) rfl ?_
    refine Jvm.OwnWp.iconst K (1 : Int32) at_145 (by decide) (pc' := 146) rfl ?_
    refine Jvm.OwnWp.iload K at_146 rfl (pc' := 148) rfl ?_
    refine callStatic K (y := (⟨"com/example/sightline/sightline/checker/ByActivityPopPinLaw", "bumpIf", "(Lcom/example/sightline/sightline/checker/ByActivity;[I[ZIII)V"⟩ : MethodName)) (argsL := [(.ref b51), (.ref b53), (.ref b54), (.int p1), (.int (1 : Int32)), (.int (((p2.toUInt32 >>> ((3 : Int32) &&& 31).toUInt32).toInt32) &&& (3 : Int32)))]) (S := []) (wd15 hw) (wd16 hw) (wd17 hw) (wd18 hw) (by decide) (c_bifB l Z a0 hw [] b51 b53 b54 p1 (1 : Int32) (((p2.toUInt32 >>> ((3 : Int32) &&& 31).toUInt32).toInt32) &&& (3 : Int32)) 8 q63 T63 h63 n0 z63 (by decide) J63) (lenOf pd6 rfl) at_148 rfl (Nat.le_of_ble_eq_true rfl) (Nat.le_of_ble_eq_true rfl) (Nat.le_of_ble_eq_true rfl) (Nat.le_of_ble_eq_true rfl) rfl (pc' := 151) rfl ?_
    rintro v64 h64 ⟨rfl, s64, q64, T64, J64⟩
    show Go _ _ _ _ _ _ _ _ _ _ _ h64 6 31 (mkF m 151 #[.val (.int p0), .val (.int p1), .val (.int p2), .val (.ref b51), .val (.ref b53), .val (.ref b54), .val (.int (p2 &&& (7 : Int32))), .val (.int (((p2.toUInt32 >>> ((3 : Int32) &&& 31).toUInt32).toInt32) &&& (3 : Int32))), .val (.int (1 : Int32))] []) _
    have z64 := Nat.le_trans z63 s64
    refine Jvm.OwnWp.aloadN K at_151 rfl rfl (pc' := 152) rfl ?_
    refine Jvm.OwnWp.aload K at_152 rfl rfl (pc' := 154) rfl ?_
    refine Jvm.OwnWp.aload K at_154 rfl rfl (pc' := 156) rfl ?_
    refine Jvm.OwnWp.iloadN K at_156 rfl (pc' := 157) rfl ?_
    refine Jvm.OwnWp.iconst K (2 : Int32) at_157 (by decide) (pc' := 158) rfl ?_
    refine Jvm.OwnWp.iload K at_158 rfl (pc' := 160) rfl ?_
    refine callStatic K (y := (⟨"com/example/sightline/sightline/checker/ByActivityPopPinLaw", "bumpIf", "(Lcom/example/sightline/sightline/checker/ByActivity;[I[ZIII)V"⟩ : MethodName)) (argsL := [(.ref b51), (.ref b53), (.ref b54), (.int p1), (.int (2 : Int32)), (.int (((p2.toUInt32 >>> ((3 : Int32) &&& 31).toUInt32).toInt32) &&& (3 : Int32)))]) (S := []) (wd15 hw) (wd16 hw) (wd17 hw) (wd18 hw) (by decide) (c_bifB l Z a0 hw [] b51 b53 b54 p1 (2 : Int32) (((p2.toUInt32 >>> ((3 : Int32) &&& 31).toUInt32).toInt32) &&& (3 : Int32)) 9 q64 T64 h64 n0 z64 (by decide) J64) (lenOf pd6 rfl) at_160 rfl (Nat.le_of_ble_eq_true rfl) (Nat.le_of_ble_eq_true rfl) (Nat.le_of_ble_eq_true rfl) (Nat.le_of_ble_eq_true rfl) rfl (pc' := 163) rfl ?_
    rintro v65 h65 ⟨rfl, s65, q65, T65, J65⟩
    show Go _ _ _ _ _ _ _ _ _ _ _ h65 6 31 (mkF m 163 #[.val (.int p0), .val (.int p1), .val (.int p2), .val (.ref b51), .val (.ref b53), .val (.ref b54), .val (.int (p2 &&& (7 : Int32))), .val (.int (((p2.toUInt32 >>> ((3 : Int32) &&& 31).toUInt32).toInt32) &&& (3 : Int32))), .val (.int (1 : Int32))] []) _
    have z65 := Nat.le_trans z64 s65
    refine Jvm.OwnWp.iload K at_163 rfl (pc' := 165) rfl ?_
    refine ifN K at_165 (by decide) (pc' := 168) rfl ?_
    refine Jvm.OwnWp.aloadN K at_168 rfl rfl (pc' := 169) rfl ?_
    refine Jvm.OwnWp.aload K at_169 rfl rfl (pc' := 171) rfl ?_
    refine Jvm.OwnWp.aload K at_171 rfl rfl (pc' := 173) rfl ?_
    refine callStatic K (y := (⟨"com/example/sightline/sightline/checker/ByActivityPopPinLaw", "popCheck", "(Lcom/example/sightline/sightline/checker/ByActivity;[I[Z)Z"⟩ : MethodName)) (argsL := [(.ref b51), (.ref b53), (.ref b54)]) (S := []) (wd51 hw) (wd52 hw) (wd17 hw) (wd53 hw) (by decide) (c_pc l Z a0 hw [] b51 b53 b54 10 q65 T65 true h65 n0 z65 (by decide) J65) (lenOf pd7 rfl) at_173 rfl (Nat.le_of_ble_eq_true rfl) (Nat.le_of_ble_eq_true rfl) (Nat.le_of_ble_eq_true rfl) (Nat.le_of_ble_eq_true rfl) rfl (pc' := 176) rfl ?_
    rintro v66 h66 ⟨rfl, s66, T66, J66⟩
    show Go _ _ _ _ _ _ _ _ _ _ _ h66 6 31 (mkF m 176 #[.val (.int p0), .val (.int p1), .val (.int p2), .val (.ref b51), .val (.ref b53), .val (.ref b54), .val (.int (p2 &&& (7 : Int32))), .val (.int (((p2.toUInt32 >>> ((3 : Int32) &&& 31).toUInt32).toInt32) &&& (3 : Int32))), .val (.int (1 : Int32))] [(.int (1 : Int32))]) _
    have z66 := Nat.le_trans z65 s66
    refine ifN K at_176 (by decide) (pc' := 179) rfl ?_
    refine Jvm.OwnWp.iconst K (1 : Int32) at_179 (by decide) (pc' := 180) rfl ?_
    refine goto' K at_180 (pc' := 184) (by decide) (by decide) ?_
    refine Jvm.OwnWp.istore K at_184 (Ls' := #[.val (.int p0), .val (.int p1), .val (.int p2), .val (.ref b51), .val (.ref b53), .val (.ref b54), .val (.int (p2 &&& (7 : Int32))), .val (.int (((p2.toUInt32 >>> ((3 : Int32) &&& 31).toUInt32).toInt32) &&& (3 : Int32))), .val (.int (1 : Int32))]) rfl (pc' := 186) rfl ?_
    refine Jvm.OwnWp.iload K at_186 rfl (pc' := 188) rfl ?_
    refine ifN K at_188 (by decide) (pc' := 191) rfl ?_
    refine Jvm.OwnWp.aloadN K at_191 rfl rfl (pc' := 192) rfl ?_
    refine Jvm.OwnWp.aload K at_192 rfl rfl (pc' := 194) rfl ?_
    refine Jvm.OwnWp.aload K at_194 rfl rfl (pc' := 196) rfl ?_
    refine callStatic K (y := (⟨"com/example/sightline/sightline/checker/ByActivityPopPinLaw", "popCheck", "(Lcom/example/sightline/sightline/checker/ByActivity;[I[Z)Z"⟩ : MethodName)) (argsL := [(.ref b51), (.ref b53), (.ref b54)]) (S := []) (wd51 hw) (wd52 hw) (wd17 hw) (wd53 hw) (by decide) (c_pc l Z a0 hw [] b51 b53 b54 10 q65 T66 true h66 n0 z66 (by decide) J66) (lenOf pd7 rfl) at_196 rfl (Nat.le_of_ble_eq_true rfl) (Nat.le_of_ble_eq_true rfl) (Nat.le_of_ble_eq_true rfl) (Nat.le_of_ble_eq_true rfl) rfl (pc' := 199) rfl ?_
    rintro v67 h67 ⟨rfl, s67, T67, J67⟩
    show Go _ _ _ _ _ _ _ _ _ _ _ h67 6 31 (mkF m 199 #[.val (.int p0), .val (.int p1), .val (.int p2), .val (.ref b51), .val (.ref b53), .val (.ref b54), .val (.int (p2 &&& (7 : Int32))), .val (.int (((p2.toUInt32 >>> ((3 : Int32) &&& 31).toUInt32).toInt32) &&& (3 : Int32))), .val (.int (1 : Int32))] [(.int (1 : Int32))]) _
    have z67 := Nat.le_trans z66 s67
    refine ifN K at_199 (by decide) (pc' := 202) rfl ?_
    refine Jvm.OwnWp.iconst K (1 : Int32) at_202 (by decide) (pc' := 203) rfl ?_
    refine goto' K at_203 (pc' := 207) (by decide) (by decide) ?_
    refine Jvm.OwnWp.istore K at_207 (Ls' := #[.val (.int p0), .val (.int p1), .val (.int p2), .val (.ref b51), .val (.ref b53), .val (.ref b54), .val (.int (p2 &&& (7 : Int32))), .val (.int (((p2.toUInt32 >>> ((3 : Int32) &&& 31).toUInt32).toInt32) &&& (3 : Int32))), .val (.int (1 : Int32))]) rfl (pc' := 209) rfl ?_
    refine Jvm.OwnWp.iload K at_209 rfl (pc' := 211) rfl ?_
    refine ifN K at_211 (by decide) (pc' := 214) rfl ?_
    refine Jvm.OwnWp.aloadN K at_214 rfl rfl (pc' := 215) rfl ?_
    refine Jvm.OwnWp.aload K at_215 rfl rfl (pc' := 217) rfl ?_
    refine Jvm.OwnWp.aload K at_217 rfl rfl (pc' := 219) rfl ?_
    refine callStatic K (y := (⟨"com/example/sightline/sightline/checker/ByActivityPopPinLaw", "popCheck", "(Lcom/example/sightline/sightline/checker/ByActivity;[I[Z)Z"⟩ : MethodName)) (argsL := [(.ref b51), (.ref b53), (.ref b54)]) (S := []) (wd51 hw) (wd52 hw) (wd17 hw) (wd53 hw) (by decide) (c_pc l Z a0 hw [] b51 b53 b54 10 q65 T67 true h67 n0 z67 (by decide) J67) (lenOf pd7 rfl) at_219 rfl (Nat.le_of_ble_eq_true rfl) (Nat.le_of_ble_eq_true rfl) (Nat.le_of_ble_eq_true rfl) (Nat.le_of_ble_eq_true rfl) rfl (pc' := 222) rfl ?_
    rintro v68 h68 ⟨rfl, s68, T68, J68⟩
    show Go _ _ _ _ _ _ _ _ _ _ _ h68 6 31 (mkF m 222 #[.val (.int p0), .val (.int p1), .val (.int p2), .val (.ref b51), .val (.ref b53), .val (.ref b54), .val (.int (p2 &&& (7 : Int32))), .val (.int (((p2.toUInt32 >>> ((3 : Int32) &&& 31).toUInt32).toInt32) &&& (3 : Int32))), .val (.int (1 : Int32))] [(.int (1 : Int32))]) _
    have z68 := Nat.le_trans z67 s68
    refine ifN K at_222 (by decide) (pc' := 225) rfl ?_
    refine Jvm.OwnWp.iconst K (1 : Int32) at_225 (by decide) (pc' := 226) rfl ?_
    refine goto' K at_226 (pc' := 230) (by decide) (by decide) ?_
    refine Jvm.OwnWp.istore K at_230 (Ls' := #[.val (.int p0), .val (.int p1), .val (.int p2), .val (.ref b51), .val (.ref b53), .val (.ref b54), .val (.int (p2 &&& (7 : Int32))), .val (.int (((p2.toUInt32 >>> ((3 : Int32) &&& 31).toUInt32).toInt32) &&& (3 : Int32))), .val (.int (1 : Int32))]) rfl (pc' := 232) rfl ?_
    refine Jvm.OwnWp.iload K at_232 rfl (pc' := 234) rfl ?_
    refine ifN K at_234 (by decide) (pc' := 237) rfl ?_
    refine Jvm.OwnWp.aloadN K at_237 rfl rfl (pc' := 238) rfl ?_
    refine Jvm.OwnWp.aload K at_238 rfl rfl (pc' := 240) rfl ?_
    refine Jvm.OwnWp.aload K at_240 rfl rfl (pc' := 242) rfl ?_
    refine callStatic K (y := (⟨"com/example/sightline/sightline/checker/ByActivityPopPinLaw", "popCheck", "(Lcom/example/sightline/sightline/checker/ByActivity;[I[Z)Z"⟩ : MethodName)) (argsL := [(.ref b51), (.ref b53), (.ref b54)]) (S := []) (wd51 hw) (wd52 hw) (wd17 hw) (wd53 hw) (by decide) (c_pc l Z a0 hw [] b51 b53 b54 10 q65 T68 true h68 n0 z68 (by decide) J68) (lenOf pd7 rfl) at_242 rfl (Nat.le_of_ble_eq_true rfl) (Nat.le_of_ble_eq_true rfl) (Nat.le_of_ble_eq_true rfl) (Nat.le_of_ble_eq_true rfl) rfl (pc' := 245) rfl ?_
    rintro v69 h69 ⟨rfl, s69, T69, J69⟩
    show Go _ _ _ _ _ _ _ _ _ _ _ h69 6 31 (mkF m 245 #[.val (.int p0), .val (.int p1), .val (.int p2), .val (.ref b51), .val (.ref b53), .val (.ref b54), .val (.int (p2 &&& (7 : Int32))), .val (.int (((p2.toUInt32 >>> ((3 : Int32) &&& 31).toUInt32).toInt32) &&& (3 : Int32))), .val (.int (1 : Int32))] [(.int (1 : Int32))]) _
    have z69 := Nat.le_trans z68 s69
    refine ifN K at_245 (by decide) (pc' := 248) rfl ?_
    refine Jvm.OwnWp.iconst K (1 : Int32) at_248 (by decide) (pc' := 249) rfl ?_
    refine goto' K at_249 (pc' := 253) (by decide) (by decide) ?_
    refine Jvm.OwnWp.istore K at_253 (Ls' := #[.val (.int p0), .val (.int p1), .val (.int p2), .val (.ref b51), .val (.ref b53), .val (.ref b54), .val (.int (p2 &&& (7 : Int32))), .val (.int (((p2.toUInt32 >>> ((3 : Int32) &&& 31).toUInt32).toInt32) &&& (3 : Int32))), .val (.int (1 : Int32))]) rfl (pc' := 255) rfl ?_
    refine Jvm.OwnWp.iload K at_255 rfl (pc' := 257) rfl ?_
    refine ifN K at_257 (by decide) (pc' := 260) rfl ?_
    refine Jvm.OwnWp.aloadN K at_260 rfl rfl (pc' := 261) rfl ?_
    refine Jvm.OwnWp.aload K at_261 rfl rfl (pc' := 263) rfl ?_
    refine Jvm.OwnWp.aload K at_263 rfl rfl (pc' := 265) rfl ?_
    refine callStatic K (y := (⟨"com/example/sightline/sightline/checker/ByActivityPopPinLaw", "popCheck", "(Lcom/example/sightline/sightline/checker/ByActivity;[I[Z)Z"⟩ : MethodName)) (argsL := [(.ref b51), (.ref b53), (.ref b54)]) (S := []) (wd51 hw) (wd52 hw) (wd17 hw) (wd53 hw) (by decide) (c_pc l Z a0 hw [] b51 b53 b54 10 q65 T69 true h69 n0 z69 (by decide) J69) (lenOf pd7 rfl) at_265 rfl (Nat.le_of_ble_eq_true rfl) (Nat.le_of_ble_eq_true rfl) (Nat.le_of_ble_eq_true rfl) (Nat.le_of_ble_eq_true rfl) rfl (pc' := 268) rfl ?_
    rintro v70 h70 ⟨rfl, s70, T70, J70⟩
    show Go _ _ _ _ _ _ _ _ _ _ _ h70 6 31 (mkF m 268 #[.val (.int p0), .val (.int p1), .val (.int p2), .val (.ref b51), .val (.ref b53), .val (.ref b54), .val (.int (p2 &&& (7 : Int32))), .val (.int (((p2.toUInt32 >>> ((3 : Int32) &&& 31).toUInt32).toInt32) &&& (3 : Int32))), .val (.int (1 : Int32))] [(.int (1 : Int32))]) _
    have z70 := Nat.le_trans z69 s70
    refine ifN K at_268 (by decide) (pc' := 271) rfl ?_
    refine Jvm.OwnWp.iconst K (1 : Int32) at_271 (by decide) (pc' := 272) rfl ?_
    refine goto' K at_272 (pc' := 276) (by decide) (by decide) ?_
    refine Jvm.OwnWp.istore K at_276 (Ls' := #[.val (.int p0), .val (.int p1), .val (.int p2), .val (.ref b51), .val (.ref b53), .val (.ref b54), .val (.int (p2 &&& (7 : Int32))), .val (.int (((p2.toUInt32 >>> ((3 : Int32) &&& 31).toUInt32).toInt32) &&& (3 : Int32))), .val (.int (1 : Int32))]) rfl (pc' := 278) rfl ?_
    refine Jvm.OwnWp.iload K at_278 rfl (pc' := 280) rfl ?_
    refine ifN K at_280 (by decide) (pc' := 283) rfl ?_
    refine Jvm.OwnWp.aloadN K at_283 rfl rfl (pc' := 284) rfl ?_
    refine Jvm.OwnWp.aload K at_284 rfl rfl (pc' := 286) rfl ?_
    refine Jvm.OwnWp.aload K at_286 rfl rfl (pc' := 288) rfl ?_
    refine callStatic K (y := (⟨"com/example/sightline/sightline/checker/ByActivityPopPinLaw", "popCheck", "(Lcom/example/sightline/sightline/checker/ByActivity;[I[Z)Z"⟩ : MethodName)) (argsL := [(.ref b51), (.ref b53), (.ref b54)]) (S := []) (wd51 hw) (wd52 hw) (wd17 hw) (wd53 hw) (by decide) (c_pc l Z a0 hw [] b51 b53 b54 10 q65 T70 true h70 n0 z70 (by decide) J70) (lenOf pd7 rfl) at_288 rfl (Nat.le_of_ble_eq_true rfl) (Nat.le_of_ble_eq_true rfl) (Nat.le_of_ble_eq_true rfl) (Nat.le_of_ble_eq_true rfl) rfl (pc' := 291) rfl ?_
    rintro v71 h71 ⟨rfl, s71, T71, J71⟩
    show Go _ _ _ _ _ _ _ _ _ _ _ h71 6 31 (mkF m 291 #[.val (.int p0), .val (.int p1), .val (.int p2), .val (.ref b51), .val (.ref b53), .val (.ref b54), .val (.int (p2 &&& (7 : Int32))), .val (.int (((p2.toUInt32 >>> ((3 : Int32) &&& 31).toUInt32).toInt32) &&& (3 : Int32))), .val (.int (1 : Int32))] [(.int (1 : Int32))]) _
    have z71 := Nat.le_trans z70 s71
    refine ifN K at_291 (by decide) (pc' := 294) rfl ?_
    refine Jvm.OwnWp.iconst K (1 : Int32) at_294 (by decide) (pc' := 295) rfl ?_
    refine goto' K at_295 (pc' := 299) (by decide) (by decide) ?_
    refine Jvm.OwnWp.istore K at_299 (Ls' := #[.val (.int p0), .val (.int p1), .val (.int p2), .val (.ref b51), .val (.ref b53), .val (.ref b54), .val (.int (p2 &&& (7 : Int32))), .val (.int (((p2.toUInt32 >>> ((3 : Int32) &&& 31).toUInt32).toInt32) &&& (3 : Int32))), .val (.int (1 : Int32))]) rfl (pc' := 301) rfl ?_
    refine Jvm.OwnWp.iload K at_301 rfl (pc' := 303) rfl ?_
    refine retB K (t := .boolean) rfl (by simp) at_303 (Nat.le_of_ble_eq_true rfl) (Nat.le_of_ble_eq_true rfl) ?_
    rfl
  · refine Jvm.OwnWp.aloadN K at_32 rfl rfl (pc' := 33) rfl ?_
    refine Jvm.OwnWp.aload K at_33 rfl rfl (pc' := 35) rfl ?_
    refine Jvm.OwnWp.aload K at_35 rfl rfl (pc' := 37) rfl ?_
    refine Jvm.OwnWp.iloadN K at_37 rfl (pc' := 38) rfl ?_
    refine Jvm.OwnWp.iconst K (0 : Int32) at_38 (by decide) (pc' := 39) rfl ?_
    refine Jvm.OwnWp.iload K at_39 rfl (pc' := 41) rfl ?_
    refine callStatic K (y := (⟨"com/example/sightline/sightline/checker/ByActivityPopPinLaw", "bumpIf", "(Lcom/example/sightline/sightline/checker/ByActivity;[I[ZIII)V"⟩ : MethodName)) (argsL := [(.ref b51), (.ref b53), (.ref b54), (.int p0), (.int (0 : Int32)), (.int (p2 &&& (7 : Int32)))]) (S := []) (wd15 hw) (wd16 hw) (wd17 hw) (wd18 hw) (by decide) (c_bifN l Z a0 hw [] b51 b53 b54 p0 (0 : Int32) (p2 &&& (7 : Int32)) h54 n0 z0 (fun z => ck (Int32.lt_of_le_of_lt (by decide : (0 : Int32) ≤ 0) z))) (lenOf pd6 rfl) at_41 rfl (Nat.le_of_ble_eq_true rfl) (Nat.le_of_ble_eq_true rfl) (Nat.le_of_ble_eq_true rfl) (Nat.le_of_ble_eq_true rfl) rfl (pc' := 44) rfl ?_
    rintro v72 h72 ⟨rfl, rfl⟩
    show Go _ _ _ _ _ _ _ _ _ _ _ h54 3 16 (mkF m 44 #[.val (.int p0), .val (.int p1), .val (.int p2), .val (.ref b51), .val (.ref b53), .val (.ref b54), .val (.int (p2 &&& (7 : Int32))), .val (.int (((p2.toUInt32 >>> ((3 : Int32) &&& 31).toUInt32).toInt32) &&& (3 : Int32))), .unset] []) _
    refine Jvm.OwnWp.aloadN K at_44 rfl rfl (pc' := 45) rfl ?_
    refine Jvm.OwnWp.aload K at_45 rfl rfl (pc' := 47) rfl ?_
    refine Jvm.OwnWp.aload K at_47 rfl rfl (pc' := 49) rfl ?_
    refine Jvm.OwnWp.iloadN K at_49 rfl (pc' := 50) rfl ?_
    refine Jvm.OwnWp.iconst K (1 : Int32) at_50 (by decide) (pc' := 51) rfl ?_
    refine Jvm.OwnWp.iload K at_51 rfl (pc' := 53) rfl ?_
    refine callStatic K (y := (⟨"com/example/sightline/sightline/checker/ByActivityPopPinLaw", "bumpIf", "(Lcom/example/sightline/sightline/checker/ByActivity;[I[ZIII)V"⟩ : MethodName)) (argsL := [(.ref b51), (.ref b53), (.ref b54), (.int p0), (.int (1 : Int32)), (.int (p2 &&& (7 : Int32)))]) (S := []) (wd15 hw) (wd16 hw) (wd17 hw) (wd18 hw) (by decide) (c_bifN l Z a0 hw [] b51 b53 b54 p0 (1 : Int32) (p2 &&& (7 : Int32)) h54 n0 z0 (fun z => ck (Int32.lt_of_le_of_lt (by decide : (0 : Int32) ≤ 1) z))) (lenOf pd6 rfl) at_53 rfl (Nat.le_of_ble_eq_true rfl) (Nat.le_of_ble_eq_true rfl) (Nat.le_of_ble_eq_true rfl) (Nat.le_of_ble_eq_true rfl) rfl (pc' := 56) rfl ?_
    rintro v73 h73 ⟨rfl, rfl⟩
    show Go _ _ _ _ _ _ _ _ _ _ _ h54 3 16 (mkF m 56 #[.val (.int p0), .val (.int p1), .val (.int p2), .val (.ref b51), .val (.ref b53), .val (.ref b54), .val (.int (p2 &&& (7 : Int32))), .val (.int (((p2.toUInt32 >>> ((3 : Int32) &&& 31).toUInt32).toInt32) &&& (3 : Int32))), .unset] []) _
    refine Jvm.OwnWp.aloadN K at_56 rfl rfl (pc' := 57) rfl ?_
    refine Jvm.OwnWp.aload K at_57 rfl rfl (pc' := 59) rfl ?_
    refine Jvm.OwnWp.aload K at_59 rfl rfl (pc' := 61) rfl ?_
    refine Jvm.OwnWp.iloadN K at_61 rfl (pc' := 62) rfl ?_
    refine Jvm.OwnWp.iconst K (2 : Int32) at_62 (by decide) (pc' := 63) rfl ?_
    refine Jvm.OwnWp.iload K at_63 rfl (pc' := 65) rfl ?_
    refine callStatic K (y := (⟨"com/example/sightline/sightline/checker/ByActivityPopPinLaw", "bumpIf", "(Lcom/example/sightline/sightline/checker/ByActivity;[I[ZIII)V"⟩ : MethodName)) (argsL := [(.ref b51), (.ref b53), (.ref b54), (.int p0), (.int (2 : Int32)), (.int (p2 &&& (7 : Int32)))]) (S := []) (wd15 hw) (wd16 hw) (wd17 hw) (wd18 hw) (by decide) (c_bifN l Z a0 hw [] b51 b53 b54 p0 (2 : Int32) (p2 &&& (7 : Int32)) h54 n0 z0 (fun z => ck (Int32.lt_of_le_of_lt (by decide : (0 : Int32) ≤ 2) z))) (lenOf pd6 rfl) at_65 rfl (Nat.le_of_ble_eq_true rfl) (Nat.le_of_ble_eq_true rfl) (Nat.le_of_ble_eq_true rfl) (Nat.le_of_ble_eq_true rfl) rfl (pc' := 68) rfl ?_
    rintro v74 h74 ⟨rfl, rfl⟩
    show Go _ _ _ _ _ _ _ _ _ _ _ h54 3 16 (mkF m 68 #[.val (.int p0), .val (.int p1), .val (.int p2), .val (.ref b51), .val (.ref b53), .val (.ref b54), .val (.int (p2 &&& (7 : Int32))), .val (.int (((p2.toUInt32 >>> ((3 : Int32) &&& 31).toUInt32).toInt32) &&& (3 : Int32))), .unset] []) _
    refine Jvm.OwnWp.aloadN K at_68 rfl rfl (pc' := 69) rfl ?_
    refine Jvm.OwnWp.aload K at_69 rfl rfl (pc' := 71) rfl ?_
    refine Jvm.OwnWp.aload K at_71 rfl rfl (pc' := 73) rfl ?_
    refine Jvm.OwnWp.iloadN K at_73 rfl (pc' := 74) rfl ?_
    refine Jvm.OwnWp.iconst K (3 : Int32) at_74 (by decide) (pc' := 75) rfl ?_
    refine Jvm.OwnWp.iload K at_75 rfl (pc' := 77) rfl ?_
    refine callStatic K (y := (⟨"com/example/sightline/sightline/checker/ByActivityPopPinLaw", "bumpIf", "(Lcom/example/sightline/sightline/checker/ByActivity;[I[ZIII)V"⟩ : MethodName)) (argsL := [(.ref b51), (.ref b53), (.ref b54), (.int p0), (.int (3 : Int32)), (.int (p2 &&& (7 : Int32)))]) (S := []) (wd15 hw) (wd16 hw) (wd17 hw) (wd18 hw) (by decide) (c_bifN l Z a0 hw [] b51 b53 b54 p0 (3 : Int32) (p2 &&& (7 : Int32)) h54 n0 z0 (fun z => ck (Int32.lt_of_le_of_lt (by decide : (0 : Int32) ≤ 3) z))) (lenOf pd6 rfl) at_77 rfl (Nat.le_of_ble_eq_true rfl) (Nat.le_of_ble_eq_true rfl) (Nat.le_of_ble_eq_true rfl) (Nat.le_of_ble_eq_true rfl) rfl (pc' := 80) rfl ?_
    rintro v75 h75 ⟨rfl, rfl⟩
    show Go _ _ _ _ _ _ _ _ _ _ _ h54 3 16 (mkF m 80 #[.val (.int p0), .val (.int p1), .val (.int p2), .val (.ref b51), .val (.ref b53), .val (.ref b54), .val (.int (p2 &&& (7 : Int32))), .val (.int (((p2.toUInt32 >>> ((3 : Int32) &&& 31).toUInt32).toInt32) &&& (3 : Int32))), .unset] []) _
    refine Jvm.OwnWp.aloadN K at_80 rfl rfl (pc' := 81) rfl ?_
    refine Jvm.OwnWp.aload K at_81 rfl rfl (pc' := 83) rfl ?_
    refine Jvm.OwnWp.aload K at_83 rfl rfl (pc' := 85) rfl ?_
    refine Jvm.OwnWp.iloadN K at_85 rfl (pc' := 86) rfl ?_
    refine Jvm.OwnWp.iconst K (4 : Int32) at_86 (by decide) (pc' := 87) rfl ?_
    refine Jvm.OwnWp.iload K at_87 rfl (pc' := 89) rfl ?_
    refine callStatic K (y := (⟨"com/example/sightline/sightline/checker/ByActivityPopPinLaw", "bumpIf", "(Lcom/example/sightline/sightline/checker/ByActivity;[I[ZIII)V"⟩ : MethodName)) (argsL := [(.ref b51), (.ref b53), (.ref b54), (.int p0), (.int (4 : Int32)), (.int (p2 &&& (7 : Int32)))]) (S := []) (wd15 hw) (wd16 hw) (wd17 hw) (wd18 hw) (by decide) (c_bifN l Z a0 hw [] b51 b53 b54 p0 (4 : Int32) (p2 &&& (7 : Int32)) h54 n0 z0 (fun z => ck (Int32.lt_of_le_of_lt (by decide : (0 : Int32) ≤ 4) z))) (lenOf pd6 rfl) at_89 rfl (Nat.le_of_ble_eq_true rfl) (Nat.le_of_ble_eq_true rfl) (Nat.le_of_ble_eq_true rfl) (Nat.le_of_ble_eq_true rfl) rfl (pc' := 92) rfl ?_
    rintro v76 h76 ⟨rfl, rfl⟩
    show Go _ _ _ _ _ _ _ _ _ _ _ h54 3 16 (mkF m 92 #[.val (.int p0), .val (.int p1), .val (.int p2), .val (.ref b51), .val (.ref b53), .val (.ref b54), .val (.int (p2 &&& (7 : Int32))), .val (.int (((p2.toUInt32 >>> ((3 : Int32) &&& 31).toUInt32).toInt32) &&& (3 : Int32))), .unset] []) _
    refine Jvm.OwnWp.aloadN K at_92 rfl rfl (pc' := 93) rfl ?_
    refine Jvm.OwnWp.aload K at_93 rfl rfl (pc' := 95) rfl ?_
    refine Jvm.OwnWp.aload K at_95 rfl rfl (pc' := 97) rfl ?_
    refine Jvm.OwnWp.iloadN K at_97 rfl (pc' := 98) rfl ?_
    refine Jvm.OwnWp.iconst K (5 : Int32) at_98 (by decide) (pc' := 99) rfl ?_
    refine Jvm.OwnWp.iload K at_99 rfl (pc' := 101) rfl ?_
    refine callStatic K (y := (⟨"com/example/sightline/sightline/checker/ByActivityPopPinLaw", "bumpIf", "(Lcom/example/sightline/sightline/checker/ByActivity;[I[ZIII)V"⟩ : MethodName)) (argsL := [(.ref b51), (.ref b53), (.ref b54), (.int p0), (.int (5 : Int32)), (.int (p2 &&& (7 : Int32)))]) (S := []) (wd15 hw) (wd16 hw) (wd17 hw) (wd18 hw) (by decide) (c_bifN l Z a0 hw [] b51 b53 b54 p0 (5 : Int32) (p2 &&& (7 : Int32)) h54 n0 z0 (fun z => ck (Int32.lt_of_le_of_lt (by decide : (0 : Int32) ≤ 5) z))) (lenOf pd6 rfl) at_101 rfl (Nat.le_of_ble_eq_true rfl) (Nat.le_of_ble_eq_true rfl) (Nat.le_of_ble_eq_true rfl) (Nat.le_of_ble_eq_true rfl) rfl (pc' := 104) rfl ?_
    rintro v77 h77 ⟨rfl, rfl⟩
    show Go _ _ _ _ _ _ _ _ _ _ _ h54 3 16 (mkF m 104 #[.val (.int p0), .val (.int p1), .val (.int p2), .val (.ref b51), .val (.ref b53), .val (.ref b54), .val (.int (p2 &&& (7 : Int32))), .val (.int (((p2.toUInt32 >>> ((3 : Int32) &&& 31).toUInt32).toInt32) &&& (3 : Int32))), .unset] []) _
    refine Jvm.OwnWp.aloadN K at_104 rfl rfl (pc' := 105) rfl ?_
    refine Jvm.OwnWp.aload K at_105 rfl rfl (pc' := 107) rfl ?_
    refine Jvm.OwnWp.aload K at_107 rfl rfl (pc' := 109) rfl ?_
    refine Jvm.OwnWp.iloadN K at_109 rfl (pc' := 110) rfl ?_
    refine Jvm.OwnWp.bipush K (6 : Int32) at_110 (by decide) (pc' := 112) rfl ?_
    refine Jvm.OwnWp.iload K at_112 rfl (pc' := 114) rfl ?_
    refine callStatic K (y := (⟨"com/example/sightline/sightline/checker/ByActivityPopPinLaw", "bumpIf", "(Lcom/example/sightline/sightline/checker/ByActivity;[I[ZIII)V"⟩ : MethodName)) (argsL := [(.ref b51), (.ref b53), (.ref b54), (.int p0), (.int (6 : Int32)), (.int (p2 &&& (7 : Int32)))]) (S := []) (wd15 hw) (wd16 hw) (wd17 hw) (wd18 hw) (by decide) (c_bifN l Z a0 hw [] b51 b53 b54 p0 (6 : Int32) (p2 &&& (7 : Int32)) h54 n0 z0 (fun z => ck (Int32.lt_of_le_of_lt (by decide : (0 : Int32) ≤ 6) z))) (lenOf pd6 rfl) at_114 rfl (Nat.le_of_ble_eq_true rfl) (Nat.le_of_ble_eq_true rfl) (Nat.le_of_ble_eq_true rfl) (Nat.le_of_ble_eq_true rfl) rfl (pc' := 117) rfl ?_
    rintro v78 h78 ⟨rfl, rfl⟩
    show Go _ _ _ _ _ _ _ _ _ _ _ h54 3 16 (mkF m 117 #[.val (.int p0), .val (.int p1), .val (.int p2), .val (.ref b51), .val (.ref b53), .val (.ref b54), .val (.int (p2 &&& (7 : Int32))), .val (.int (((p2.toUInt32 >>> ((3 : Int32) &&& 31).toUInt32).toInt32) &&& (3 : Int32))), .unset] []) _
    refine Jvm.OwnWp.aloadN K at_117 rfl rfl (pc' := 118) rfl ?_
    refine Jvm.OwnWp.aload K at_118 rfl rfl (pc' := 120) rfl ?_
    refine Jvm.OwnWp.aload K at_120 rfl rfl (pc' := 122) rfl ?_
    refine callStatic K (y := (⟨"com/example/sightline/sightline/checker/ByActivityPopPinLaw", "popCheck", "(Lcom/example/sightline/sightline/checker/ByActivity;[I[Z)Z"⟩ : MethodName)) (argsL := [(.ref b51), (.ref b53), (.ref b54)]) (S := []) (wd51 hw) (wd52 hw) (wd17 hw) (wd53 hw) (by decide) (c_pc l Z a0 hw [] b51 b53 b54 0 (List.replicate 5 0) [] false h54 n0 z0 (by decide) J0) (lenOf pd7 rfl) at_122 rfl (Nat.le_of_ble_eq_true rfl) (Nat.le_of_ble_eq_true rfl) (Nat.le_of_ble_eq_true rfl) (Nat.le_of_ble_eq_true rfl) rfl (pc' := 125) rfl ?_
    rintro v79 h79 ⟨rfl, s79, T79, J79⟩
    show Go _ _ _ _ _ _ _ _ _ _ _ h79 3 16 (mkF m 125 #[.val (.int p0), .val (.int p1), .val (.int p2), .val (.ref b51), .val (.ref b53), .val (.ref b54), .val (.int (p2 &&& (7 : Int32))), .val (.int (((p2.toUInt32 >>> ((3 : Int32) &&& 31).toUInt32).toInt32) &&& (3 : Int32))), .unset] [(.int (1 : Int32))]) _
    have z79 := Nat.le_trans z0 s79
    refine Jvm.OwnWp.istore K at_125 (Ls' := #[.val (.int p0), .val (.int p1), .val (.int p2), .val (.ref b51), .val (.ref b53), .val (.ref b54), .val (.int (p2 &&& (7 : Int32))), .val (.int (((p2.toUInt32 >>> ((3 : Int32) &&& 31).toUInt32).toInt32) &&& (3 : Int32))), .val (.int (1 : Int32))]) rfl (pc' := 127) rfl ?_
    by_cases cm : (0 : Int32) < (((p2.toUInt32 >>> ((3 : Int32) &&& 31).toUInt32).toInt32) &&& (3 : Int32))
    · refine Jvm.OwnWp.aloadN K at_127 rfl rfl (pc' := 128) rfl ?_
      refine Jvm.OwnWp.aload K at_128 rfl rfl (pc' := 130) rfl ?_
      refine Jvm.OwnWp.aload K at_130 rfl rfl (pc' := 132) rfl ?_
      refine Jvm.OwnWp.iloadN K at_132 rfl (pc' := 133) rfl ?_
      refine Jvm.OwnWp.iconst K (0 : Int32) at_133 (by decide) (pc' := 134) rfl ?_
      refine Jvm.OwnWp.iload K at_134 rfl (pc' := 136) rfl ?_
      refine callStatic K (y := (⟨"com/example/sightline/sightline/checker/ByActivityPopPinLaw", "bumpIf", "(Lcom/example/sightline/sightline/checker/ByActivity;[I[ZIII)V"⟩ : MethodName)) (argsL := [(.ref b51), (.ref b53), (.ref b54), (.int p1), (.int (0 : Int32)), (.int (((p2.toUInt32 >>> ((3 : Int32) &&& 31).toUInt32).toInt32) &&& (3 : Int32)))]) (S := []) (wd15 hw) (wd16 hw) (wd17 hw) (wd18 hw) (by decide) (c_bifU l Z a0 hw [] b51 b53 b54 p1 (0 : Int32) (((p2.toUInt32 >>> ((3 : Int32) &&& 31).toUInt32).toInt32) &&& (3 : Int32)) 0 (List.replicate 5 0) T79 h79 n0 z79 (by decide) cm J79) (lenOf pd6 rfl) at_136 rfl (Nat.le_of_ble_eq_true rfl) (Nat.le_of_ble_eq_true rfl) (Nat.le_of_ble_eq_true rfl) (Nat.le_of_ble_eq_true rfl) rfl (pc' := 139) rfl ?_
      rintro v80 h80 ⟨rfl, s80, q80, T80, J80⟩
      show Go _ _ _ _ _ _ _ _ _ _ _ h80 6 31 (mkF m 139 #[.val (.int p0), .val (.int p1), .val (.int p2), .val (.ref b51), .val (.ref b53), .val (.ref b54), .val (.int (p2 &&& (7 : Int32))), .val (.int (((p2.toUInt32 >>> ((3 : Int32) &&& 31).toUInt32).toInt32) &&& (3 : Int32))), .val (.int (1 : Int32))] []) _
      have z80 := Nat.le_trans z79 s80
      refine Jvm.OwnWp.aloadN K at_139 rfl rfl (pc' := 140) rfl ?_
      refine Jvm.OwnWp.aload K at_140 rfl rfl (pc' := 142) rfl ?_
      refine Jvm.OwnWp.aload K at_142 rfl rfl (pc' := 144) rfl ?_
      refine Jvm.OwnWp.iloadN K at_144 rfl (pc' := 145) rfl ?_
      refine Jvm.OwnWp.iconst K (1 : Int32) at_145 (by decide) (pc' := 146) rfl ?_
      refine Jvm.OwnWp.iload K at_146 rfl (pc' := 148) rfl ?_
      refine callStatic K (y := (⟨"com/example/sightline/sightline/checker/ByActivityPopPinLaw", "bumpIf", "(Lcom/example/sightline/sightline/checker/ByActivity;[I[ZIII)V"⟩ : MethodName)) (argsL := [(.ref b51), (.ref b53), (.ref b54), (.int p1), (.int (1 : Int32)), (.int (((p2.toUInt32 >>> ((3 : Int32) &&& 31).toUInt32).toInt32) &&& (3 : Int32)))]) (S := []) (wd15 hw) (wd16 hw) (wd17 hw) (wd18 hw) (by decide) (c_bifB l Z a0 hw [] b51 b53 b54 p1 (1 : Int32) (((p2.toUInt32 >>> ((3 : Int32) &&& 31).toUInt32).toInt32) &&& (3 : Int32)) 1 q80 T80 h80 n0 z80 (by decide) J80) (lenOf pd6 rfl) at_148 rfl (Nat.le_of_ble_eq_true rfl) (Nat.le_of_ble_eq_true rfl) (Nat.le_of_ble_eq_true rfl) (Nat.le_of_ble_eq_true rfl) rfl (pc' := 151) rfl ?_
      rintro v81 h81 ⟨rfl, s81, q81, T81, J81⟩
      show Go _ _ _ _ _ _ _ _ _ _ _ h81 6 31 (mkF m 151 #[.val (.int p0), .val (.int p1), .val (.int p2), .val (.ref b51), .val (.ref b53), .val (.ref b54), .val (.int (p2 &&& (7 : Int32))), .val (.int (((p2.toUInt32 >>> ((3 : Int32) &&& 31).toUInt32).toInt32) &&& (3 : Int32))), .val (.int (1 : Int32))] []) _
      have z81 := Nat.le_trans z80 s81
      refine Jvm.OwnWp.aloadN K at_151 rfl rfl (pc' := 152) rfl ?_
      refine Jvm.OwnWp.aload K at_152 rfl rfl (pc' := 154) rfl ?_
      refine Jvm.OwnWp.aload K at_154 rfl rfl (pc' := 156) rfl ?_
      refine Jvm.OwnWp.iloadN K at_156 rfl (pc' := 157) rfl ?_
      refine Jvm.OwnWp.iconst K (2 : Int32) at_157 (by decide) (pc' := 158) rfl ?_
      refine Jvm.OwnWp.iload K at_158 rfl (pc' := 160) rfl ?_
      refine callStatic K (y := (⟨"com/example/sightline/sightline/checker/ByActivityPopPinLaw", "bumpIf", "(Lcom/example/sightline/sightline/checker/ByActivity;[I[ZIII)V"⟩ : MethodName)) (argsL := [(.ref b51), (.ref b53), (.ref b54), (.int p1), (.int (2 : Int32)), (.int (((p2.toUInt32 >>> ((3 : Int32) &&& 31).toUInt32).toInt32) &&& (3 : Int32)))]) (S := []) (wd15 hw) (wd16 hw) (wd17 hw) (wd18 hw) (by decide) (c_bifB l Z a0 hw [] b51 b53 b54 p1 (2 : Int32) (((p2.toUInt32 >>> ((3 : Int32) &&& 31).toUInt32).toInt32) &&& (3 : Int32)) 2 q81 T81 h81 n0 z81 (by decide) J81) (lenOf pd6 rfl) at_160 rfl (Nat.le_of_ble_eq_true rfl) (Nat.le_of_ble_eq_true rfl) (Nat.le_of_ble_eq_true rfl) (Nat.le_of_ble_eq_true rfl) rfl (pc' := 163) rfl ?_
      rintro v82 h82 ⟨rfl, s82, q82, T82, J82⟩
      show Go _ _ _ _ _ _ _ _ _ _ _ h82 6 31 (mkF m 163 #[.val (.int p0), .val (.int p1), .val (.int p2), .val (.ref b51), .val (.ref b53), .val (.ref b54), .val (.int (p2 &&& (7 : Int32))), .val (.int (((p2.toUInt32 >>> ((3 : Int32) &&& 31).toUInt32).toInt32) &&& (3 : Int32))), .val (.int (1 : Int32))] []) _
      have z82 := Nat.le_trans z81 s82
      refine Jvm.OwnWp.iload K at_163 rfl (pc' := 165) rfl ?_
      refine ifN K at_165 (by decide) (pc' := 168) rfl ?_
      refine Jvm.OwnWp.aloadN K at_168 rfl rfl (pc' := 169) rfl ?_
      refine Jvm.OwnWp.aload K at_169 rfl rfl (pc' := 171) rfl ?_
      refine Jvm.OwnWp.aload K at_171 rfl rfl (pc' := 173) rfl ?_
      refine callStatic K (y := (⟨"com/example/sightline/sightline/checker/ByActivityPopPinLaw", "popCheck", "(Lcom/example/sightline/sightline/checker/ByActivity;[I[Z)Z"⟩ : MethodName)) (argsL := [(.ref b51), (.ref b53), (.ref b54)]) (S := []) (wd51 hw) (wd52 hw) (wd17 hw) (wd53 hw) (by decide) (c_pc l Z a0 hw [] b51 b53 b54 3 q82 T82 true h82 n0 z82 (by decide) J82) (lenOf pd7 rfl) at_173 rfl (Nat.le_of_ble_eq_true rfl) (Nat.le_of_ble_eq_true rfl) (Nat.le_of_ble_eq_true rfl) (Nat.le_of_ble_eq_true rfl) rfl (pc' := 176) rfl ?_
      rintro v83 h83 ⟨rfl, s83, T83, J83⟩
      show Go _ _ _ _ _ _ _ _ _ _ _ h83 6 31 (mkF m 176 #[.val (.int p0), .val (.int p1), .val (.int p2), .val (.ref b51), .val (.ref b53), .val (.ref b54), .val (.int (p2 &&& (7 : Int32))), .val (.int (((p2.toUInt32 >>> ((3 : Int32) &&& 31).toUInt32).toInt32) &&& (3 : Int32))), .val (.int (1 : Int32))] [(.int (1 : Int32))]) _
      have z83 := Nat.le_trans z82 s83
      refine ifN K at_176 (by decide) (pc' := 179) rfl ?_
      refine Jvm.OwnWp.iconst K (1 : Int32) at_179 (by decide) (pc' := 180) rfl ?_
      refine goto' K at_180 (pc' := 184) (by decide) (by decide) ?_
      refine Jvm.OwnWp.istore K at_184 (Ls' := #[.val (.int p0), .val (.int p1), .val (.int p2), .val (.ref b51), .val (.ref b53), .val (.ref b54), .val (.int (p2 &&& (7 : Int32))), .val (.int (((p2.toUInt32 >>> ((3 : Int32) &&& 31).toUInt32).toInt32) &&& (3 : Int32))), .val (.int (1 : Int32))]) rfl (pc' := 186) rfl ?_
      refine Jvm.OwnWp.iload K at_186 rfl (pc' := 188) rfl ?_
      refine ifN K at_188 (by decide) (pc' := 191) rfl ?_
      refine Jvm.OwnWp.aloadN K at_191 rfl rfl (pc' := 192) rfl ?_
      refine Jvm.OwnWp.aload K at_192 rfl rfl (pc' := 194) rfl ?_
      refine Jvm.OwnWp.aload K at_194 rfl rfl (pc' := 196) rfl ?_
      refine callStatic K (y := (⟨"com/example/sightline/sightline/checker/ByActivityPopPinLaw", "popCheck", "(Lcom/example/sightline/sightline/checker/ByActivity;[I[Z)Z"⟩ : MethodName)) (argsL := [(.ref b51), (.ref b53), (.ref b54)]) (S := []) (wd51 hw) (wd52 hw) (wd17 hw) (wd53 hw) (by decide) (c_pc l Z a0 hw [] b51 b53 b54 3 q82 T83 true h83 n0 z83 (by decide) J83) (lenOf pd7 rfl) at_196 rfl (Nat.le_of_ble_eq_true rfl) (Nat.le_of_ble_eq_true rfl) (Nat.le_of_ble_eq_true rfl) (Nat.le_of_ble_eq_true rfl) rfl (pc' := 199) rfl ?_
      rintro v84 h84 ⟨rfl, s84, T84, J84⟩
      show Go _ _ _ _ _ _ _ _ _ _ _ h84 6 31 (mkF m 199 #[.val (.int p0), .val (.int p1), .val (.int p2), .val (.ref b51), .val (.ref b53), .val (.ref b54), .val (.int (p2 &&& (7 : Int32))), .val (.int (((p2.toUInt32 >>> ((3 : Int32) &&& 31).toUInt32).toInt32) &&& (3 : Int32))), .val (.int (1 : Int32))] [(.int (1 : Int32))]) _
      have z84 := Nat.le_trans z83 s84
      refine ifN K at_199 (by decide) (pc' := 202) rfl ?_
      refine Jvm.OwnWp.iconst K (1 : Int32) at_202 (by decide) (pc' := 203) rfl ?_
      refine goto' K at_203 (pc' := 207) (by decide) (by decide) ?_
      refine Jvm.OwnWp.istore K at_207 (Ls' := #[.val (.int p0), .val (.int p1), .val (.int p2), .val (.ref b51), .val (.ref b53), .val (.ref b54), .val (.int (p2 &&& (7 : Int32))), .val (.int (((p2.toUInt32 >>> ((3 : Int32) &&& 31).toUInt32).toInt32) &&& (3 : Int32))), .val (.int (1 : Int32))]) rfl (pc' := 209) rfl ?_
      refine Jvm.OwnWp.iload K at_209 rfl (pc' := 211) rfl ?_
      refine ifN K at_211 (by decide) (pc' := 214) rfl ?_
      refine Jvm.OwnWp.aloadN K at_214 rfl rfl (pc' := 215) rfl ?_
      refine Jvm.OwnWp.aload K at_215 rfl rfl (pc' := 217) rfl ?_
      refine Jvm.OwnWp.aload K at_217 rfl rfl (pc' := 219) rfl ?_
      refine callStatic K (y := (⟨"com/example/sightline/sightline/checker/ByActivityPopPinLaw", "popCheck", "(Lcom/example/sightline/sightline/checker/ByActivity;[I[Z)Z"⟩ : MethodName)) (argsL := [(.ref b51), (.ref b53), (.ref b54)]) (S := []) (wd51 hw) (wd52 hw) (wd17 hw) (wd53 hw) (by decide) (c_pc l Z a0 hw [] b51 b53 b54 3 q82 T84 true h84 n0 z84 (by decide) J84) (lenOf pd7 rfl) at_219 rfl (Nat.le_of_ble_eq_true rfl) (Nat.le_of_ble_eq_true rfl) (Nat.le_of_ble_eq_true rfl) (Nat.le_of_ble_eq_true rfl) rfl (pc' := 222) rfl ?_
      rintro v85 h85 ⟨rfl, s85, T85, J85⟩
      show Go _ _ _ _ _ _ _ _ _ _ _ h85 6 31 (mkF m 222 #[.val (.int p0), .val (.int p1), .val (.int p2), .val (.ref b51), .val (.ref b53), .val (.ref b54), .val (.int (p2 &&& (7 : Int32))), .val (.int (((p2.toUInt32 >>> ((3 : Int32) &&& 31).toUInt32).toInt32) &&& (3 : Int32))), .val (.int (1 : Int32))] [(.int (1 : Int32))]) _
      have z85 := Nat.le_trans z84 s85
      refine ifN K at_222 (by decide) (pc' := 225) rfl ?_
      refine Jvm.OwnWp.iconst K (1 : Int32) at_225 (by decide) (pc' := 226) rfl ?_
      refine goto' K at_226 (pc' := 230) (by decide) (by decide) ?_
      refine Jvm.OwnWp.istore K at_230 (Ls' := #[.val (.int p0), .val (.int p1), .val (.int p2), .val (.ref b51), .val (.ref b53), .val (.ref b54), .val (.int (p2 &&& (7 : Int32))), .val (.int (((p2.toUInt32 >>> ((3 : Int32) &&& 31).toUInt32).toInt32) &&& (3 : Int32))), .val (.int (1 : Int32))]) rfl (pc' := 232) rfl ?_
      refine Jvm.OwnWp.iload K at_232 rfl (pc' := 234) rfl ?_
      refine ifN K at_234 (by decide) (pc' := 237) rfl ?_
      refine Jvm.OwnWp.aloadN K at_237 rfl rfl (pc' := 238) rfl ?_
      refine Jvm.OwnWp.aload K at_238 rfl rfl (pc' := 240) rfl ?_
      refine Jvm.OwnWp.aload K at_240 rfl rfl (pc' := 242) rfl ?_
      refine callStatic K (y := (⟨"com/example/sightline/sightline/checker/ByActivityPopPinLaw", "popCheck", "(Lcom/example/sightline/sightline/checker/ByActivity;[I[Z)Z"⟩ : MethodName)) (argsL := [(.ref b51), (.ref b53), (.ref b54)]) (S := []) (wd51 hw) (wd52 hw) (wd17 hw) (wd53 hw) (by decide) (c_pc l Z a0 hw [] b51 b53 b54 3 q82 T85 true h85 n0 z85 (by decide) J85) (lenOf pd7 rfl) at_242 rfl (Nat.le_of_ble_eq_true rfl) (Nat.le_of_ble_eq_true rfl) (Nat.le_of_ble_eq_true rfl) (Nat.le_of_ble_eq_true rfl) rfl (pc' := 245) rfl ?_
      rintro v86 h86 ⟨rfl, s86, T86, J86⟩
      show Go _ _ _ _ _ _ _ _ _ _ _ h86 6 31 (mkF m 245 #[.val (.int p0), .val (.int p1), .val (.int p2), .val (.ref b51), .val (.ref b53), .val (.ref b54), .val (.int (p2 &&& (7 : Int32))), .val (.int (((p2.toUInt32 >>> ((3 : Int32) &&& 31).toUInt32).toInt32) &&& (3 : Int32))), .val (.int (1 : Int32))] [(.int (1 : Int32))]) _
      have z86 := Nat.le_trans z85 s86
      refine ifN K at_245 (by decide) (pc' := 248) rfl ?_
      refine Jvm.OwnWp.iconst K (1 : Int32) at_248 (by decide) (pc' := 249) rfl ?_
      refine goto' K at_249 (pc' := 253) (by decide) (by decide) ?_
      refine Jvm.OwnWp.istore K at_253 (Ls' := #[.val (.int p0), .val (.int p1), .val (.int p2), .val (.ref b51), .val (.ref b53), .val (.ref b54), .val (.int (p2 &&& (7 : Int32))), .val (.int (((p2.toUInt32 >>> ((3 : Int32) &&& 31).toUInt32).toInt32) &&& (3 : Int32))), .val (.int (1 : Int32))]) rfl (pc' := 255) rfl ?_
      refine Jvm.OwnWp.iload K at_255 rfl (pc' := 257) rfl ?_
      refine ifN K at_257 (by decide) (pc' := 260) rfl ?_
      refine Jvm.OwnWp.aloadN K at_260 rfl rfl (pc' := 261) rfl ?_
      refine Jvm.OwnWp.aload K at_261 rfl rfl (pc' := 263) rfl ?_
      refine Jvm.OwnWp.aload K at_263 rfl rfl (pc' := 265) rfl ?_
      refine callStatic K (y := (⟨"com/example/sightline/sightline/checker/ByActivityPopPinLaw", "popCheck", "(Lcom/example/sightline/sightline/checker/ByActivity;[I[Z)Z"⟩ : MethodName)) (argsL := [(.ref b51), (.ref b53), (.ref b54)]) (S := []) (wd51 hw) (wd52 hw) (wd17 hw) (wd53 hw) (by decide) (c_pc l Z a0 hw [] b51 b53 b54 3 q82 T86 true h86 n0 z86 (by decide) J86) (lenOf pd7 rfl) at_265 rfl (Nat.le_of_ble_eq_true rfl) (Nat.le_of_ble_eq_true rfl) (Nat.le_of_ble_eq_true rfl) (Nat.le_of_ble_eq_true rfl) rfl (pc' := 268) rfl ?_
      rintro v87 h87 ⟨rfl, s87, T87, J87⟩
      show Go _ _ _ _ _ _ _ _ _ _ _ h87 6 31 (mkF m 268 #[.val (.int p0), .val (.int p1), .val (.int p2), .val (.ref b51), .val (.ref b53), .val (.ref b54), .val (.int (p2 &&& (7 : Int32))), .val (.int (((p2.toUInt32 >>> ((3 : Int32) &&& 31).toUInt32).toInt32) &&& (3 : Int32))), .val (.int (1 : Int32))] [(.int (1 : Int32))]) _
      have z87 := Nat.le_trans z86 s87
      refine ifN K at_268 (by decide) (pc' := 271) rfl ?_
      refine Jvm.OwnWp.iconst K (1 : Int32) at_271 (by decide) (pc' := 272) rfl ?_
      refine goto' K at_272 (pc' := 276) (by decide) (by decide) ?_
      refine Jvm.OwnWp.istore K at_276 (Ls' := #[.val (.int p0), .val (.int p1), .val (.int p2), .val (.ref b51), .val (.ref b53), .val (.ref b54), .val (.int (p2 &&& (7 : Int32))), .val (.int (((p2.toUInt32 >>> ((3 : Int32) &&& 31).toUInt32).toInt32) &&& (3 : Int32))), .val (.int (1 : Int32))]) rfl (pc' := 278) rfl ?_
      refine Jvm.OwnWp.iload K at_278 rfl (pc' := 280) rfl ?_
      refine ifN K at_280 (by decide) (pc' := 283) rfl ?_
      refine Jvm.OwnWp.aloadN K at_283 rfl rfl (pc' := 284) rfl ?_
      refine Jvm.OwnWp.aload K at_284 rfl rfl (pc' := 286) rfl ?_
      refine Jvm.OwnWp.aload K at_286 rfl rfl (pc' := 288) rfl ?_
      refine callStatic K (y := (⟨"com/example/sightline/sightline/checker/ByActivityPopPinLaw", "popCheck", "(Lcom/example/sightline/sightline/checker/ByActivity;[I[Z)Z"⟩ : MethodName)) (argsL := [(.ref b51), (.ref b53), (.ref b54)]) (S := []) (wd51 hw) (wd52 hw) (wd17 hw) (wd53 hw) (by decide) (c_pc l Z a0 hw [] b51 b53 b54 3 q82 T87 true h87 n0 z87 (by decide) J87) (lenOf pd7 rfl) at_288 rfl (Nat.le_of_ble_eq_true rfl) (Nat.le_of_ble_eq_true rfl) (Nat.le_of_ble_eq_true rfl) (Nat.le_of_ble_eq_true rfl) rfl (pc' := 291) rfl ?_
      rintro v88 h88 ⟨rfl, s88, T88, J88⟩
      show Go _ _ _ _ _ _ _ _ _ _ _ h88 6 31 (mkF m 291 #[.val (.int p0), .val (.int p1), .val (.int p2), .val (.ref b51), .val (.ref b53), .val (.ref b54), .val (.int (p2 &&& (7 : Int32))), .val (.int (((p2.toUInt32 >>> ((3 : Int32) &&& 31).toUInt32).toInt32) &&& (3 : Int32))), .val (.int (1 : Int32))] [(.int (1 : Int32))]) _
      have z88 := Nat.le_trans z87 s88
      refine ifN K at_291 (by decide) (pc' := 294) rfl ?_
      refine Jvm.OwnWp.iconst K (1 : Int32) at_294 (by decide) (pc' := 295) rfl ?_
      refine goto' K at_295 (pc' := 299) (by decide) (by decide) ?_
      refine Jvm.OwnWp.istore K at_299 (Ls' := #[.val (.int p0), .val (.int p1), .val (.int p2), .val (.ref b51), .val (.ref b53), .val (.ref b54), .val (.int (p2 &&& (7 : Int32))), .val (.int (((p2.toUInt32 >>> ((3 : Int32) &&& 31).toUInt32).toInt32) &&& (3 : Int32))), .val (.int (1 : Int32))]) rfl (pc' := 301) rfl ?_
      refine Jvm.OwnWp.iload K at_301 rfl (pc' := 303) rfl ?_
      refine retB K (t := .boolean) rfl (by simp) at_303 (Nat.le_of_ble_eq_true rfl) (Nat.le_of_ble_eq_true rfl) ?_
      rfl
    · refine Jvm.OwnWp.aloadN K at_127 rfl rfl (pc' := 128) rfl ?_
      refine Jvm.OwnWp.aload K at_128 rfl rfl (pc' := 130) rfl ?_
      refine Jvm.OwnWp.aload K at_130 rfl rfl (pc' := 132) rfl ?_
      refine Jvm.OwnWp.iloadN K at_132 rfl (pc' := 133) rfl ?_
      refine Jvm.OwnWp.iconst K (0 : Int32) at_133 (by decide) (pc' := 134) rfl ?_
      refine Jvm.OwnWp.iload K at_134 rfl (pc' := 136) rfl ?_
      refine callStatic K (y := (⟨"com/example/sightline/sightline/checker/ByActivityPopPinLaw", "bumpIf", "(Lcom/example/sightline/sightline/checker/ByActivity;[I[ZIII)V"⟩ : MethodName)) (argsL := [(.ref b51), (.ref b53), (.ref b54), (.int p1), (.int (0 : Int32)), (.int (((p2.toUInt32 >>> ((3 : Int32) &&& 31).toUInt32).toInt32) &&& (3 : Int32)))]) (S := []) (wd15 hw) (wd16 hw) (wd17 hw) (wd18 hw) (by decide) (c_bifN l Z a0 hw [] b51 b53 b54 p1 (0 : Int32) (((p2.toUInt32 >>> ((3 : Int32) &&& 31).toUInt32).toInt32) &&& (3 : Int32)) h79 n0 z79 (fun z => cm (Int32.lt_of_le_of_lt (by decide : (0 : Int32) ≤ 0) z))) (lenOf pd6 rfl) at_136 rfl (Nat.le_of_ble_eq_true rfl) (Nat.le_of_ble_eq_true rfl) (Nat.le_of_ble_eq_true rfl) (Nat.le_of_ble_eq_true rfl) rfl (pc' := 139) rfl ?_
      rintro v89 h89 ⟨rfl, rfl⟩
      show Go _ _ _ _ _ _ _ _ _ _ _ h79 3 16 (mkF m 139 #[.val (.int p0), .val (.int p1), .val (.int p2), .val (.ref b51), .val (.ref b53), .val (.ref b54), .val (.int (p2 &&& (7 : Int32))), .val (.int (((p2.toUInt32 >>> ((3 : Int32) &&& 31).toUInt32).toInt32) &&& (3 : Int32))), .val (.int (1 : Int32))] []) _
      refine Jvm.OwnWp.aloadN K at_139 rfl rfl (pc' := 140) rfl ?_
      refine Jvm.OwnWp.aload K at_140 rfl rfl (pc' := 142) rfl ?_
      refine Jvm.OwnWp.aload K at_142 rfl rfl (pc' := 144) rfl ?_
      refine Jvm.OwnWp.iloadN K at_144 rfl (pc' := 145) rfl ?_
      refine Jvm.OwnWp.iconst K (1 : Int32) at_145 (by decide) (pc' := 146) rfl ?_
      refine Jvm.OwnWp.iload K at_146 rfl (pc' := 148) rfl ?_
      refine callStatic K (y := (⟨"com/example/sightline/sightline/checker/ByActivityPopPinLaw", "bumpIf", "(Lcom/example/sightline/sightline/checker/ByActivity;[I[ZIII)V"⟩ : MethodName)) (argsL := [(.ref b51), (.ref b53), (.ref b54), (.int p1), (.int (1 : Int32)), (.int (((p2.toUInt32 >>> ((3 : Int32) &&& 31).toUInt32).toInt32) &&& (3 : Int32)))]) (S := []) (wd15 hw) (wd16 hw) (wd17 hw) (wd18 hw) (by decide) (c_bifN l Z a0 hw [] b51 b53 b54 p1 (1 : Int32) (((p2.toUInt32 >>> ((3 : Int32) &&& 31).toUInt32).toInt32) &&& (3 : Int32)) h79 n0 z79 (fun z => cm (Int32.lt_of_le_of_lt (by decide : (0 : Int32) ≤ 1) z))) (lenOf pd6 rfl) at_148 rfl (Nat.le_of_ble_eq_true rfl) (Nat.le_of_ble_eq_true rfl) (Nat.le_of_ble_eq_true rfl) (Nat.le_of_ble_eq_true rfl) rfl (pc' := 151) rfl ?_
      rintro v90 h90 ⟨rfl, rfl⟩
      show Go _ _ _ _ _ _ _ _ _ _ _ h79 3 16 (mkF m 151 #[.val (.int p0), .val (.int p1), .val (.int p2), .val (.ref b51), .val (.ref b53), .val (.ref b54), .val (.int (p2 &&& (7 : Int32))), .val (.int (((p2.toUInt32 >>> ((3 : Int32) &&& 31).toUInt32).toInt32) &&& (3 : Int32))), .val (.int (1 : Int32))] []) _
      refine Jvm.OwnWp.aloadN K at_151 rfl rfl (pc' := 152) rfl ?_
      refine Jvm.OwnWp.aload K at_152 rfl rfl (pc' := 154) rfl ?_
      refine Jvm.OwnWp.aload K at_154 rfl rfl (pc' := 156) rfl ?_
      refine Jvm.OwnWp.iloadN K at_156 rfl (pc' := 157) rfl ?_
      refine Jvm.OwnWp.iconst K (2 : Int32) at_157 (by decide) (pc' := 158) rfl ?_
      refine Jvm.OwnWp.iload K at_158 rfl (pc' := 160) rfl ?_
      refine callStatic K (y := (⟨"com/example/sightline/sightline/checker/ByActivityPopPinLaw", "bumpIf", "(Lcom/example/sightline/sightline/checker/ByActivity;[I[ZIII)V"⟩ : MethodName)) (argsL := [(.ref b51), (.ref b53), (.ref b54), (.int p1), (.int (2 : Int32)), (.int (((p2.toUInt32 >>> ((3 : Int32) &&& 31).toUInt32).toInt32) &&& (3 : Int32)))]) (S := []) (wd15 hw) (wd16 hw) (wd17 hw) (wd18 hw) (by decide) (c_bifN l Z a0 hw [] b51 b53 b54 p1 (2 : Int32) (((p2.toUInt32 >>> ((3 : Int32) &&& 31).toUInt32).toInt32) &&& (3 : Int32)) h79 n0 z79 (fun z => cm (Int32.lt_of_le_of_lt (by decide : (0 : Int32) ≤ 2) z))) (lenOf pd6 rfl) at_160 rfl (Nat.le_of_ble_eq_true rfl) (Nat.le_of_ble_eq_true rfl) (Nat.le_of_ble_eq_true rfl) (Nat.le_of_ble_eq_true rfl) rfl (pc' := 163) rfl ?_
      rintro v91 h91 ⟨rfl, rfl⟩
      show Go _ _ _ _ _ _ _ _ _ _ _ h79 3 16 (mkF m 163 #[.val (.int p0), .val (.int p1), .val (.int p2), .val (.ref b51), .val (.ref b53), .val (.ref b54), .val (.int (p2 &&& (7 : Int32))), .val (.int (((p2.toUInt32 >>> ((3 : Int32) &&& 31).toUInt32).toInt32) &&& (3 : Int32))), .val (.int (1 : Int32))] []) _
      refine Jvm.OwnWp.iload K at_163 rfl (pc' := 165) rfl ?_
      refine ifN K at_165 (by decide) (pc' := 168) rfl ?_
      refine Jvm.OwnWp.aloadN K at_168 rfl rfl (pc' := 169) rfl ?_
      refine Jvm.OwnWp.aload K at_169 rfl rfl (pc' := 171) rfl ?_
      refine Jvm.OwnWp.aload K at_171 rfl rfl (pc' := 173) rfl ?_
      refine callStatic K (y := (⟨"com/example/sightline/sightline/checker/ByActivityPopPinLaw", "popCheck", "(Lcom/example/sightline/sightline/checker/ByActivity;[I[Z)Z"⟩ : MethodName)) (argsL := [(.ref b51), (.ref b53), (.ref b54)]) (S := []) (wd51 hw) (wd52 hw) (wd17 hw) (wd53 hw) (by decide) (c_pc l Z a0 hw [] b51 b53 b54 0 (List.replicate 5 0) T79 false h79 n0 z79 (by decide) J79) (lenOf pd7 rfl) at_173 rfl (Nat.le_of_ble_eq_true rfl) (Nat.le_of_ble_eq_true rfl) (Nat.le_of_ble_eq_true rfl) (Nat.le_of_ble_eq_true rfl) rfl (pc' := 176) rfl ?_
      rintro v92 h92 ⟨rfl, s92, T92, J92⟩
      show Go _ _ _ _ _ _ _ _ _ _ _ h92 3 16 (mkF m 176 #[.val (.int p0), .val (.int p1), .val (.int p2), .val (.ref b51), .val (.ref b53), .val (.ref b54), .val (.int (p2 &&& (7 : Int32))), .val (.int (((p2.toUInt32 >>> ((3 : Int32) &&& 31).toUInt32).toInt32) &&& (3 : Int32))), .val (.int (1 : Int32))] [(.int (1 : Int32))]) _
      have z92 := Nat.le_trans z79 s92
      refine ifN K at_176 (by decide) (pc' := 179) rfl ?_
      refine Jvm.OwnWp.iconst K (1 : Int32) at_179 (by decide) (pc' := 180) rfl ?_
      refine goto' K at_180 (pc' := 184) (by decide) (by decide) ?_
      refine Jvm.OwnWp.istore K at_184 (Ls' := #[.val (.int p0), .val (.int p1), .val (.int p2), .val (.ref b51), .val (.ref b53), .val (.ref b54), .val (.int (p2 &&& (7 : Int32))), .val (.int (((p2.toUInt32 >>> ((3 : Int32) &&& 31).toUInt32).toInt32) &&& (3 : Int32))), .val (.int (1 : Int32))]) rfl (pc' := 186) rfl ?_
      refine Jvm.OwnWp.iload K at_186 rfl (pc' := 188) rfl ?_
      refine ifN K at_188 (by decide) (pc' := 191) rfl ?_
      refine Jvm.OwnWp.aloadN K at_191 rfl rfl (pc' := 192) rfl ?_
      refine Jvm.OwnWp.aload K at_192 rfl rfl (pc' := 194) rfl ?_
      refine Jvm.OwnWp.aload K at_194 rfl rfl (pc' := 196) rfl ?_
      refine callStatic K (y := (⟨"com/example/sightline/sightline/checker/ByActivityPopPinLaw", "popCheck", "(Lcom/example/sightline/sightline/checker/ByActivity;[I[Z)Z"⟩ : MethodName)) (argsL := [(.ref b51), (.ref b53), (.ref b54)]) (S := []) (wd51 hw) (wd52 hw) (wd17 hw) (wd53 hw) (by decide) (c_pc l Z a0 hw [] b51 b53 b54 0 (List.replicate 5 0) T92 false h92 n0 z92 (by decide) J92) (lenOf pd7 rfl) at_196 rfl (Nat.le_of_ble_eq_true rfl) (Nat.le_of_ble_eq_true rfl) (Nat.le_of_ble_eq_true rfl) (Nat.le_of_ble_eq_true rfl) rfl (pc' := 199) rfl ?_
      rintro v93 h93 ⟨rfl, s93, T93, J93⟩
      show Go _ _ _ _ _ _ _ _ _ _ _ h93 3 16 (mkF m 199 #[.val (.int p0), .val (.int p1), .val (.int p2), .val (.ref b51), .val (.ref b53), .val (.ref b54), .val (.int (p2 &&& (7 : Int32))), .val (.int (((p2.toUInt32 >>> ((3 : Int32) &&& 31).toUInt32).toInt32) &&& (3 : Int32))), .val (.int (1 : Int32))] [(.int (1 : Int32))]) _
      have z93 := Nat.le_trans z92 s93
      refine ifN K at_199 (by decide) (pc' := 202) rfl ?_
      refine Jvm.OwnWp.iconst K (1 : Int32) at_202 (by decide) (pc' := 203) rfl ?_
      refine goto' K at_203 (pc' := 207) (by decide) (by decide) ?_
      refine Jvm.OwnWp.istore K at_207 (Ls' := #[.val (.int p0), .val (.int p1), .val (.int p2), .val (.ref b51), .val (.ref b53), .val (.ref b54), .val (.int (p2 &&& (7 : Int32))), .val (.int (((p2.toUInt32 >>> ((3 : Int32) &&& 31).toUInt32).toInt32) &&& (3 : Int32))), .val (.int (1 : Int32))]) rfl (pc' := 209) rfl ?_
      refine Jvm.OwnWp.iload K at_209 rfl (pc' := 211) rfl ?_
      refine ifN K at_211 (by decide) (pc' := 214) rfl ?_
      refine Jvm.OwnWp.aloadN K at_214 rfl rfl (pc' := 215) rfl ?_
      refine Jvm.OwnWp.aload K at_215 rfl rfl (pc' := 217) rfl ?_
      refine Jvm.OwnWp.aload K at_217 rfl rfl (pc' := 219) rfl ?_
      refine callStatic K (y := (⟨"com/example/sightline/sightline/checker/ByActivityPopPinLaw", "popCheck", "(Lcom/example/sightline/sightline/checker/ByActivity;[I[Z)Z"⟩ : MethodName)) (argsL := [(.ref b51), (.ref b53), (.ref b54)]) (S := []) (wd51 hw) (wd52 hw) (wd17 hw) (wd53 hw) (by decide) (c_pc l Z a0 hw [] b51 b53 b54 0 (List.replicate 5 0) T93 false h93 n0 z93 (by decide) J93) (lenOf pd7 rfl) at_219 rfl (Nat.le_of_ble_eq_true rfl) (Nat.le_of_ble_eq_true rfl) (Nat.le_of_ble_eq_true rfl) (Nat.le_of_ble_eq_true rfl) rfl (pc' := 222) rfl ?_
      rintro v94 h94 ⟨rfl, s94, T94, J94⟩
      show Go _ _ _ _ _ _ _ _ _ _ _ h94 3 16 (mkF m 222 #[.val (.int p0), .val (.int p1), .val (.int p2), .val (.ref b51), .val (.ref b53), .val (.ref b54), .val (.int (p2 &&& (7 : Int32))), .val (.int (((p2.toUInt32 >>> ((3 : Int32) &&& 31).toUInt32).toInt32) &&& (3 : Int32))), .val (.int (1 : Int32))] [(.int (1 : Int32))]) _
      have z94 := Nat.le_trans z93 s94
      refine ifN K at_222 (by decide) (pc' := 225) rfl ?_
      refine Jvm.OwnWp.iconst K (1 : Int32) at_225 (by decide) (pc' := 226) rfl ?_
      refine goto' K at_226 (pc' := 230) (by decide) (by decide) ?_
      refine Jvm.OwnWp.istore K at_230 (Ls' := #[.val (.int p0), .val (.int p1), .val (.int p2), .val (.ref b51), .val (.ref b53), .val (.ref b54), .val (.int (p2 &&& (7 : Int32))), .val (.int (((p2.toUInt32 >>> ((3 : Int32) &&& 31).toUInt32).toInt32) &&& (3 : Int32))), .val (.int (1 : Int32))]) rfl (pc' := 232) rfl ?_
      refine Jvm.OwnWp.iload K at_232 rfl (pc' := 234) rfl ?_
      refine ifN K at_234 (by decide) (pc' := 237) rfl ?_
      refine Jvm.OwnWp.aloadN K at_237 rfl rfl (pc' := 238) rfl ?_
      refine Jvm.OwnWp.aload K at_238 rfl rfl (pc' := 240) rfl ?_
      refine Jvm.OwnWp.aload K at_240 rfl rfl (pc' := 242) rfl ?_
      refine callStatic K (y := (⟨"com/example/sightline/sightline/checker/ByActivityPopPinLaw", "popCheck", "(Lcom/example/sightline/sightline/checker/ByActivity;[I[Z)Z"⟩ : MethodName)) (argsL := [(.ref b51), (.ref b53), (.ref b54)]) (S := []) (wd51 hw) (wd52 hw) (wd17 hw) (wd53 hw) (by decide) (c_pc l Z a0 hw [] b51 b53 b54 0 (List.replicate 5 0) T94 false h94 n0 z94 (by decide) J94) (lenOf pd7 rfl) at_242 rfl (Nat.le_of_ble_eq_true rfl) (Nat.le_of_ble_eq_true rfl) (Nat.le_of_ble_eq_true rfl) (Nat.le_of_ble_eq_true rfl) rfl (pc' := 245) rfl ?_
      rintro v95 h95 ⟨rfl, s95, T95, J95⟩
      show Go _ _ _ _ _ _ _ _ _ _ _ h95 3 16 (mkF m 245 #[.val (.int p0), .val (.int p1), .val (.int p2), .val (.ref b51), .val (.ref b53), .val (.ref b54), .val (.int (p2 &&& (7 : Int32))), .val (.int (((p2.toUInt32 >>> ((3 : Int32) &&& 31).toUInt32).toInt32) &&& (3 : Int32))), .val (.int (1 : Int32))] [(.int (1 : Int32))]) _
      have z95 := Nat.le_trans z94 s95
      refine ifN K at_245 (by decide) (pc' := 248) rfl ?_
      refine Jvm.OwnWp.iconst K (1 : Int32) at_248 (by decide) (pc' := 249) rfl ?_
      refine goto' K at_249 (pc' := 253) (by decide) (by decide) ?_
      refine Jvm.OwnWp.istore K at_253 (Ls' := #[.val (.int p0), .val (.int p1), .val (.int p2), .val (.ref b51), .val (.ref b53), .val (.ref b54), .val (.int (p2 &&& (7 : Int32))), .val (.int (((p2.toUInt32 >>> ((3 : Int32) &&& 31).toUInt32).toInt32) &&& (3 : Int32))), .val (.int (1 : Int32))]) rfl (pc' := 255) rfl ?_
      refine Jvm.OwnWp.iload K at_255 rfl (pc' := 257) rfl ?_
      refine ifN K at_257 (by decide) (pc' := 260) rfl ?_
      refine Jvm.OwnWp.aloadN K at_260 rfl rfl (pc' := 261) rfl ?_
      refine Jvm.OwnWp.aload K at_261 rfl rfl (pc' := 263) rfl ?_
      refine Jvm.OwnWp.aload K at_263 rfl rfl (pc' := 265) rfl ?_
      refine callStatic K (y := (⟨"com/example/sightline/sightline/checker/ByActivityPopPinLaw", "popCheck", "(Lcom/example/sightline/sightline/checker/ByActivity;[I[Z)Z"⟩ : MethodName)) (argsL := [(.ref b51), (.ref b53), (.ref b54)]) (S := []) (wd51 hw) (wd52 hw) (wd17 hw) (wd53 hw) (by decide) (c_pc l Z a0 hw [] b51 b53 b54 0 (List.replicate 5 0) T95 false h95 n0 z95 (by decide) J95) (lenOf pd7 rfl) at_265 rfl (Nat.le_of_ble_eq_true rfl) (Nat.le_of_ble_eq_true rfl) (Nat.le_of_ble_eq_true rfl) (Nat.le_of_ble_eq_true rfl) rfl (pc' := 268) rfl ?_
      rintro v96 h96 ⟨rfl, s96, T96, J96⟩
      show Go _ _ _ _ _ _ _ _ _ _ _ h96 3 16 (mkF m 268 #[.val (.int p0), .val (.int p1), .val (.int p2), .val (.ref b51), .val (.ref b53), .val (.ref b54), .val (.int (p2 &&& (7 : Int32))), .val (.int (((p2.toUInt32 >>> ((3 : Int32) &&& 31).toUInt32).toInt32) &&& (3 : Int32))), .val (.int (1 : Int32))] [(.int (1 : Int32))]) _
      have z96 := Nat.le_trans z95 s96
      refine ifN K at_268 (by decide) (pc' := 271) rfl ?_
      refine Jvm.OwnWp.iconst K (1 : Int32) at_271 (by decide) (pc' := 272) rfl ?_
      refine goto' K at_272 (pc' := 276) (by decide) (by decide) ?_
      refine Jvm.OwnWp.istore K at_276 (Ls' := #[.val (.int p0), .val (.int p1), .val (.int p2), .val (.ref b51), .val (.ref b53), .val (.ref b54), .val (.int (p2 &&& (7 : Int32))), .val (.int (((p2.toUInt32 >>> ((3 : Int32) &&& 31).toUInt32).toInt32) &&& (3 : Int32))), .val (.int (1 : Int32))]) rfl (pc' := 278) rfl ?_
      refine Jvm.OwnWp.iload K at_278 rfl (pc' := 280) rfl ?_
      refine ifN K at_280 (by decide) (pc' := 283) rfl ?_
      refine Jvm.OwnWp.aloadN K at_283 rfl rfl (pc' := 284) rfl ?_
      refine Jvm.OwnWp.aload K at_284 rfl rfl (pc' := 286) rfl ?_
      refine Jvm.OwnWp.aload K at_286 rfl rfl (pc' := 288) rfl ?_
      refine callStatic K (y := (⟨"com/example/sightline/sightline/checker/ByActivityPopPinLaw", "popCheck", "(Lcom/example/sightline/sightline/checker/ByActivity;[I[Z)Z"⟩ : MethodName)) (argsL := [(.ref b51), (.ref b53), (.ref b54)]) (S := []) (wd51 hw) (wd52 hw) (wd17 hw) (wd53 hw) (by decide) (c_pc l Z a0 hw [] b51 b53 b54 0 (List.replicate 5 0) T96 false h96 n0 z96 (by decide) J96) (lenOf pd7 rfl) at_288 rfl (Nat.le_of_ble_eq_true rfl) (Nat.le_of_ble_eq_true rfl) (Nat.le_of_ble_eq_true rfl) (Nat.le_of_ble_eq_true rfl) rfl (pc' := 291) rfl ?_
      rintro v97 h97 ⟨rfl, s97, T97, J97⟩
      show Go _ _ _ _ _ _ _ _ _ _ _ h97 3 16 (mkF m 291 #[.val (.int p0), .val (.int p1), .val (.int p2), .val (.ref b51), .val (.ref b53), .val (.ref b54), .val (.int (p2 &&& (7 : Int32))), .val (.int (((p2.toUInt32 >>> ((3 : Int32) &&& 31).toUInt32).toInt32) &&& (3 : Int32))), .val (.int (1 : Int32))] [(.int (1 : Int32))]) _
      have z97 := Nat.le_trans z96 s97
      refine ifN K at_291 (by decide) (pc' := 294) rfl ?_
      refine Jvm.OwnWp.iconst K (1 : Int32) at_294 (by decide) (pc' := 295) rfl ?_
      refine goto' K at_295 (pc' := 299) (by decide) (by decide) ?_
      refine Jvm.OwnWp.istore K at_299 (Ls' := #[.val (.int p0), .val (.int p1), .val (.int p2), .val (.ref b51), .val (.ref b53), .val (.ref b54), .val (.int (p2 &&& (7 : Int32))), .val (.int (((p2.toUInt32 >>> ((3 : Int32) &&& 31).toUInt32).toInt32) &&& (3 : Int32))), .val (.int (1 : Int32))]) rfl (pc' := 301) rfl ?_
      refine Jvm.OwnWp.iload K at_301 rfl (pc' := 303) rfl ?_
      refine retB K (t := .boolean) rfl (by simp) at_303 (Nat.le_of_ble_eq_true rfl) (Nat.le_of_ble_eq_true rfl) ?_
      rfl
set_option maxRecDepth 65536 in
set_option maxHeartbeats 40000000 in
theorem comes_1 {Post : Tables → Env → Array Value → State → Outcome → State → Prop} (hpost : ∀ tb e args s v u, (limb_1_1.after args s (.returned v) u = true ∧ limb_1_2.after args s (.returned v) u = true ∧ True) → FrameEnd s (.returned v) u (Jvm.fieldLocs frame_1_writes args s ++ Jvm.arrayLocs frame_1_arrays args s ++ Jvm.staticLocs frame_1_statics s) 24 128 → Post tb e args s (.returned v) u) :
    ArmFor flags0 classFile x code maxLocals ret World_1 tables_1 room_1 Calls_1 rest_1 Pre_1 Post := by
  intro l hfl _ _ p e ha hc hk s m args below hf hA hF happ hP
  obtain ⟨hcalls, hrest, hpre⟩ := hP
  obtain ⟨-, -, -, hnamed, -, -, -, hat⟩ := (Spec.applies_iff hf).mp happ
  obtain ⟨hg, hn⟩ := and_e (Cond.before_iff.mp (show (Jvm.Cond.and given_1 narrow_1).before args s = true from hpre))
  obtain ⟨q0, r0⟩ := and_e hg
  obtain ⟨q1, r1⟩ := and_e r0
  obtain ⟨q2, r2⟩ := and_e r1
  have q3 := r2
  obtain ⟨w0, w1, w2, rfl⟩ : ∃ w0 w1 w2 : Value, args = #[w0, w1, w2] := by
    have hs : args.size = 3 := by simpa [Cond.value, given_1] using q0
    obtain ⟨L⟩ := args
    match L, hs with
    | [w0, w1, w2], _ => exact ⟨w0, w1, w2, rfl⟩
  have hw := fun d (hd : d ∈ tables_1) => atoms_spec (ws := Jvm.Cond.code x code maxLocals ret :: tables_1) hat d (List.mem_cons_of_mem _ hd)
  have hfit : Fit s := fun {y c} hc i hi => by
    obtain ⟨ha, rfl⟩ := Array.getElem?_eq_some_iff.mp hc
    have q := List.all_eq_true.mp ((Array.all_eq_true_iff_forall_mem.mp hF) _ (Array.getElem_mem ha)) i (List.mem_range.mpr hi)
    simpa [Array.getElem?_eq_getElem hi] using q
  obtain ⟨i0, e0⟩ := is_v q1
  obtain rfl : w0 = (.int i0) := Option.some.inj e0
  obtain ⟨i1, e1⟩ := is_v q2
  obtain rfl : w1 = (.int i1) := Option.some.inj e1
  obtain ⟨i2, e2⟩ := is_v q3
  obtain rfl : w2 = (.int i2) := Option.some.inj e2
  obtain ⟨n, o, h1, h2, h3, _, L, rfl, ⟨rfl, N⟩, hq⟩ := c_law l s _ hw tables_1 i0 i1 i2 s.heap s.heap.size (Nat.le_refl _)  p e ha hc hk s m _ below hf ((Spec.applies_iff_loose hf).mp happ).1 ⟨rfl, State.Warmed39.refl s, rfl⟩ trivial
  refine ⟨n, _, h1, h2, h3, hpost _ _ _ _ _ _ ⟨Cond.after_iff.mpr rfl, Cond.after_iff.mpr (eq_i res_at (Term.int_eval (1)) rfl), trivial⟩ ⟨hq.1, hq.2.1, (hq.2.2.sift fun y hy => Or.inr (N y hy)).mono (by decide) (by decide)⟩⟩
theorem main_1_1 : Claimed_1_1 := comes_1 fun _ _ _ _ _ _ h hF => ⟨h.1, hF⟩
theorem main_1_2 : Claimed_1_2 := comes_1 fun _ _ _ _ _ _ h hF => ⟨h.2.1, hF⟩
end Jvm.Pilot.@@N@@
namespace Jvm.Pilot.@@N@@
open Jvm Jvm.ClassFile Sem Op Lib Jvm.Free Jvm.Stand Jvm.Pilot.@@N@@.Jvm.D
/-! MADE BY PROGRAM (witnessworld.py) out of the Statement's table words and the real class files: 14 classes; the members and pool entries that the words name. The judged class is class 1, her method 1. -/
namespace start1
open Jvm.ClassFile
def u (s : String) : CpInfo := .utf8 (stringToUtf16 s)
/-- a pool by its gaps: so many unusable entries, then the entry; so many at the end -/
def gap : Nat → List CpInfo → List CpInfo
  | 0, r => r
  | n + 1, r => .unusable :: gap n r
def poolList (es : List (Nat × CpInfo)) (last : Nat) : List CpInfo := es.foldr (fun e r => gap e.1 (e.2 :: r)) (gap last [])
def pool (es : List (Nat × CpInfo)) (last : Nat) : Array CpInfo := ⟨poolList es last⟩
def fileOf (pool : Array CpInfo) (this : Nat) (attrs : Array Attribute := #[]) (ms : Array MethodInfo := #[]) (fl : Nat := 33) (sup : Nat := 0) (ifs : Array Nat := #[]) (fds : Array FieldInfo := #[]) : ClassFile where
  minorVersion := 0
  majorVersion := 65
  constantPool := pool
  accessFlags := fl
  thisClass := this
  superClass := sup
  interfaces := ifs
  fields := fds
  methods := ms
  attributes := attrs
def plain (name : String) (sup : Option ClassId) : Class where
  name := name
  kind := .ordinary
  loader := none
  accessFlags := 33
  super := sup
  interfaces := #[]
  cf := none
  fields := #[]
  methods := #[]
  instanceTypes := #[]
  staticTypes := #[]
  resolved := #[]
  callSites := []
  init := .initialized
  statics := none
  mirror := none

def pool0 : Array CpInfo := pool [(5, u "<init>"), (0, u "()V"), (1, .class_ 10), (1, u "java/lang/Object")] 113

def k0c0 : Code := { maxStack := 0, maxLocals := 1, code := object_method_1_code, exceptionTable := #[], attributes := #[] }
def k0m0 : Method := { name := "<init>", desc := "()V", sig := { parameters := [], returnType := none }, accessFlags := 1, code := some k0c0 }
/-- java/lang/Object -/
def k0 : Class := { plain "java/lang/Object" none with
  accessFlags := 33
  interfaces := #[]
  cf := some (fileOf pool0 8 #[] #[{ accessFlags := 1, nameIndex := 5, descriptorIndex := 6, attributes := #[] }] 33 0 #[] #[])
  fields := #[]
  methods := #[k0m0]
  instanceTypes := #[]
  staticTypes := #[]
  resolved := Array.replicate 124 none
  statics := none }

def pool1 : Array CpInfo := pool [(2, .class_ 4), (1, u "java/lang/Object"), (0, u "<init>"), (0, u "()V"), (0, .class_ 8), (0, u "com/example/sightline/sightline/checker/ByActivity"), (0, .methodref 7 10), (0, .nameAndType 5 11), (0, u "(I)V"), (0, .methodref 13 14), (0, .class_ 15), (0, .nameAndType 16 17), (0, u "com/example/sightline/sightline/checker/ByActivityPopPinLaw"), (0, u "bumpIf"), (0, u "(Lcom/example/sightline/sightline/checker/ByActivity;[I[ZIII)V"), (0, .methodref 13 19), (0, .nameAndType 20 21), (0, u "popCheck"), (0, u "(Lcom/example/sightline/sightline/checker/ByActivity;[I[Z)Z"), (0, .methodref 7 23), (0, .nameAndType 24 11), (0, u "bump"), (0, .methodref 7 26), (0, .nameAndType 27 28), (0, u "isEmpty"), (0, u "()Z"), (0, .methodref 7 30), (0, .nameAndType 31 32), (0, u "pop"), (0, u "()I"), (0, .methodref 13 34), (0, .nameAndType 35 36), (0, u "beats"), (0, u "([I[ZII)Z"), (2, u "law"), (0, u "(III)Z")] 7

def k1m0 : Method := { name := "<init>", desc := "()V", sig := { parameters := [], returnType := none }, accessFlags := 1, code := none }
def k1c1 : Code := { maxStack := 6, maxLocals := 9, code := code, exceptionTable := #[], attributes := #[] }
def k1m1 : Method := { name := "law", desc := "(III)Z", sig := { parameters := [.int, .int, .int], returnType := some .boolean }, accessFlags := 9, code := some k1c1 }
def k1c2 : Code := { maxStack := 4, maxLocals := 7, code := method_3_code, exceptionTable := #[], attributes := #[] }
def k1m2 : Method := { name := "bumpIf", desc := "(Lcom/example/sightline/sightline/checker/ByActivity;[I[ZIII)V", sig := { parameters := [(.object "com/example/sightline/sightline/checker/ByActivity"), (.array .int), (.array .boolean), .int, .int, .int], returnType := none }, accessFlags := 10, code := some k1c2 }
def k1c3 : Code := { maxStack := 3, maxLocals := 4, code := method_4_code, exceptionTable := #[], attributes := #[] }
def k1m3 : Method := { name := "beats", desc := "([I[ZII)Z", sig := { parameters := [(.array .int), (.array .boolean), .int, .int], returnType := some .boolean }, accessFlags := 10, code := some k1c3 }
def k1c4 : Code := { maxStack := 4, maxLocals := 5, code := method_5_code, exceptionTable := #[], attributes := #[] }
def k1m4 : Method := { name := "popCheck", desc := "(Lcom/example/sightline/sightline/checker/ByActivity;[I[Z)Z", sig := { parameters := [(.object "com/example/sightline/sightline/checker/ByActivity"), (.array .int), (.array .boolean)], returnType := some .boolean }, accessFlags := 10, code := some k1c4 }
/-- com/example/sightline/sightline/checker/ByActivityPopPinLaw -/
def k1 : Class := { plain "com/example/sightline/sightline/checker/ByActivityPopPinLaw" (some 0) with
  accessFlags := 49
  interfaces := #[]
  cf := some (fileOf pool1 13 #[] #[{ accessFlags := 1, nameIndex := 5, descriptorIndex := 6, attributes := #[] }, { accessFlags := 9, nameIndex := 39, descriptorIndex := 40, attributes := #[] }, { accessFlags := 10, nameIndex := 16, descriptorIndex := 17, attributes := #[] }, { accessFlags := 10, nameIndex := 35, descriptorIndex := 36, attributes := #[] }, { accessFlags := 10, nameIndex := 20, descriptorIndex := 21, attributes := #[] }] 49 2 #[] #[])
  fields := #[]
  methods := #[k1m0, k1m1, k1m2, k1m3, k1m4]
  instanceTypes := #[]
  staticTypes := #[]
  resolved := Array.replicate 48 none
  statics := none }

def pool2 : Array CpInfo := pool [(1, .methodref 2 3), (0, .class_ 4), (0, .nameAndType 5 6), (0, u "java/lang/Object"), (0, u "<init>"), (0, u "()V"), (0, .fieldref 8 9), (0, .class_ 10), (0, .nameAndType 11 12), (0, u "com/example/sightline/sightline/checker/ByActivity"), (0, u "gain"), (0, u "D"), (0, .fieldref 8 14), (0, .nameAndType 15 16), (0, u "choices"), (0, u "I"), (0, .fieldref 8 18), (0, .nameAndType 19 20), (0, u "activity"), (0, u "[D"), (0, .fieldref 8 22), (0, .nameAndType 23 24), (0, u "heap"), (0, u "[I"), (0, .fieldref 8 26), (0, .nameAndType 27 24), (0, u "slot"), (0, .methodref 29 30), (0, .class_ 31), (0, .nameAndType 32 33), (0, u "java/util/Arrays"), (0, u "fill"), (0, u "([II)V"), (0, .double 6103021453049119613), (4, .methodref 8 40), (0, .nameAndType 41 42), (0, u "push"), (0, u "(I)V"), (0, .methodref 8 44), (0, .nameAndType 45 42), (0, u "up"), (2, .fieldref 8 49), (0, .nameAndType 50 16), (0, u "count"), (0, .methodref 8 52), (0, .nameAndType 53 54), (0, u "place"), (0, u "(II)V"), (0, .methodref 8 56), (0, .nameAndType 57 42), (0, u "down"), (0, u "NONE"), (2, u "ACTIVITY_DECAY"), (0, u "RESCALE_ABOVE"), (2, u "bump"), (2, u "isEmpty"), (0, u "()Z"), (0, u "pop"), (0, u "()I")] 2

def k2c0 : Code := { maxStack := 3, maxLocals := 2, code := prog_2_method_1_code, exceptionTable := #[], attributes := #[] }
def k2m0 : Method := { name := "<init>", desc := "(I)V", sig := { parameters := [.int], returnType := none }, accessFlags := 0, code := some k2c0 }
def k2c1 : Code := { maxStack := 6, maxLocals := 2, code := prog_2_method_2_code, exceptionTable := #[], attributes := #[] }
def k2m1 : Method := { name := "bump", desc := "(I)V", sig := { parameters := [.int], returnType := none }, accessFlags := 0, code := some k2c1 }
def k2c2 : Code := { maxStack := 1, maxLocals := 1, code := prog_2_method_4_code, exceptionTable := #[], attributes := #[] }
def k2m2 : Method := { name := "isEmpty", desc := "()Z", sig := { parameters := [], returnType := some .boolean }, accessFlags := 0, code := some k2c2 }
def k2c3 : Code := { maxStack := 3, maxLocals := 2, code := prog_2_method_5_code, exceptionTable := #[], attributes := #[] }
def k2m3 : Method := { name := "pop", desc := "()I", sig := { parameters := [], returnType := some .int }, accessFlags := 0, code := some k2c3 }
def k2c4 : Code := { maxStack := 6, maxLocals := 2, code := prog_2_method_6_code, exceptionTable := #[], attributes := #[] }
def k2m4 : Method := { name := "push", desc := "(I)V", sig := { parameters := [.int], returnType := none }, accessFlags := 0, code := some k2c4 }
def k2c5 : Code := { maxStack := 4, maxLocals := 3, code := prog_2_method_8_code, exceptionTable := #[], attributes := #[] }
def k2m5 : Method := { name := "up", desc := "(I)V", sig := { parameters := [.int], returnType := none }, accessFlags := 2, code := some k2c5 }
def k2c6 : Code := { maxStack := 5, maxLocals := 4, code := prog_2_method_9_code, exceptionTable := #[], attributes := #[] }
def k2m6 : Method := { name := "down", desc := "(I)V", sig := { parameters := [.int], returnType := none }, accessFlags := 2, code := some k2c6 }
def k2c7 : Code := { maxStack := 3, maxLocals := 3, code := prog_2_method_10_code, exceptionTable := #[], attributes := #[] }
def k2m7 : Method := { name := "place", desc := "(II)V", sig := { parameters := [.int, .int], returnType := none }, accessFlags := 2, code := some k2c7 }
/-- com/example/sightline/sightline/checker/ByActivity -/
def k2 : Class := { plain "com/example/sightline/sightline/checker/ByActivity" (some 0) with
  accessFlags := 48
  interfaces := #[]
  cf := some (fileOf pool2 8 #[] #[{ accessFlags := 0, nameIndex := 5, descriptorIndex := 42, attributes := #[] }, { accessFlags := 0, nameIndex := 65, descriptorIndex := 42, attributes := #[] }, { accessFlags := 0, nameIndex := 68, descriptorIndex := 69, attributes := #[] }, { accessFlags := 0, nameIndex := 70, descriptorIndex := 71, attributes := #[] }, { accessFlags := 0, nameIndex := 41, descriptorIndex := 42, attributes := #[] }, { accessFlags := 2, nameIndex := 45, descriptorIndex := 42, attributes := #[] }, { accessFlags := 2, nameIndex := 57, descriptorIndex := 42, attributes := #[] }, { accessFlags := 2, nameIndex := 53, descriptorIndex := 54, attributes := #[] }] 48 2 #[] #[{ accessFlags := 26, nameIndex := 58, descriptorIndex := 16, attributes := #[] }, { accessFlags := 26, nameIndex := 61, descriptorIndex := 12, attributes := #[] }, { accessFlags := 26, nameIndex := 62, descriptorIndex := 12, attributes := #[] }, { accessFlags := 18, nameIndex := 15, descriptorIndex := 16, attributes := #[] }, { accessFlags := 2, nameIndex := 19, descriptorIndex := 20, attributes := #[] }, { accessFlags := 2, nameIndex := 23, descriptorIndex := 24, attributes := #[] }, { accessFlags := 2, nameIndex := 27, descriptorIndex := 24, attributes := #[] }, { accessFlags := 2, nameIndex := 50, descriptorIndex := 16, attributes := #[] }, { accessFlags := 2, nameIndex := 11, descriptorIndex := 12, attributes := #[] }])
  fields := #[{ name := "NONE", type := .int, accessFlags := 26, slot := 0, constantValue := 0 }, { name := "ACTIVITY_DECAY", type := .double, accessFlags := 26, slot := 1, constantValue := 0 }, { name := "RESCALE_ABOVE", type := .double, accessFlags := 26, slot := 2, constantValue := 0 }, { name := "choices", type := .int, accessFlags := 18, slot := 0, constantValue := 0 }, { name := "activity", type := (.array .double), accessFlags := 2, slot := 1, constantValue := 0 }, { name := "heap", type := (.array .int), accessFlags := 2, slot := 2, constantValue := 0 }, { name := "slot", type := (.array .int), accessFlags := 2, slot := 3, constantValue := 0 }, { name := "count", type := .int, accessFlags := 2, slot := 4, constantValue := 0 }, { name := "gain", type := .double, accessFlags := 2, slot := 5, constantValue := 0 }]
  methods := #[k2m0, k2m1, k2m2, k2m3, k2m4, k2m5, k2m6, k2m7]
  instanceTypes := #[.int, (.array .double), (.array .int), (.array .int), .int, .double]
  staticTypes := #[.int, .double, .double]
  resolved := Array.replicate 74 none
  statics := none }

def pool3 : Array CpInfo := pool [(2, .class_ 4), (1, u "java/lang/Object"), (0, u "<init>"), (0, u "()V"), (7, .class_ 16), (1, u "java/util/Arrays"), (57, .class_ 76), (1, u "java/util/Arrays$NaturalOrder"), (36, .class_ 115), (1, u "java/util/Arrays$LegacyMergeSort"), (1, u "Z"), (257, .class_ 376), (0, u "java/util/Arrays$ArrayList"), (68, u "$assertionsDisabled"), (269, u "MIN_ARRAY_SORT_GRAN"), (0, u "I"), (2, u "INSERTIONSORT_THRESHOLD"), (120, u "fill"), (4, u "([II)V"), (129, .class_ 976), (0, u "java/util/Arrays$ArrayItr")] 52

def k3m0 : Method := { name := "<init>", desc := "()V", sig := { parameters := [], returnType := none }, accessFlags := 2, code := none }
def k3c1 : Code := { maxStack := 3, maxLocals := 4, code := jdk_65_method_103_code, exceptionTable := #[], attributes := #[] }
def k3m1 : Method := { name := "fill", desc := "([II)V", sig := { parameters := [(.array .int), .int], returnType := none }, accessFlags := 9, code := some k3c1 }
/-- java/util/Arrays -/
def k3 : Class := { plain "java/util/Arrays" (some 0) with
  accessFlags := 49
  interfaces := #[]
  cf := some (fileOf pool3 14 #[.nestMembers #[975, 375, 113, 74]] #[{ accessFlags := 2, nameIndex := 5, descriptorIndex := 6, attributes := #[] }, { accessFlags := 9, nameIndex := 840, descriptorIndex := 845, attributes := #[] }] 49 2 #[] #[{ accessFlags := 26, nameIndex := 715, descriptorIndex := 716, attributes := #[] }, { accessFlags := 26, nameIndex := 719, descriptorIndex := 716, attributes := #[] }, { accessFlags := 4120, nameIndex := 445, descriptorIndex := 117, attributes := #[] }])
  fields := #[{ name := "MIN_ARRAY_SORT_GRAN", type := .int, accessFlags := 26, slot := 0, constantValue := 0 }, { name := "INSERTIONSORT_THRESHOLD", type := .int, accessFlags := 26, slot := 1, constantValue := 0 }, { name := "$assertionsDisabled", type := .boolean, accessFlags := 4120, slot := 2, constantValue := 0 }]
  methods := #[k3m0, k3m1]
  instanceTypes := #[]
  staticTypes := #[.int, .int, .boolean]
  resolved := Array.replicate 1029 none
  statics := none }

def pool4 : Array CpInfo := pool [(1, u "java/lang/Cloneable"), (0, .class_ 1), (0, u "java/lang/Object"), (0, .class_ 3)] 3

/-- java/lang/Cloneable -/
def k4 : Class := { plain "java/lang/Cloneable" (some 0) with
  accessFlags := 1537
  interfaces := #[]
  cf := some (fileOf pool4 2 #[] #[] 1537 4 #[] #[])
  fields := #[]
  methods := #[]
  instanceTypes := #[]
  staticTypes := #[]
  resolved := Array.replicate 8 none
  statics := none }

def pool5 : Array CpInfo := pool [(1, u "java/io/Serializable"), (0, .class_ 1), (0, u "java/lang/Object"), (0, .class_ 3)] 3

/-- java/io/Serializable -/
def k5 : Class := { plain "java/io/Serializable" (some 0) with
  accessFlags := 1537
  interfaces := #[]
  cf := some (fileOf pool5 2 #[] #[] 1537 4 #[] #[])
  fields := #[]
  methods := #[]
  instanceTypes := #[]
  staticTypes := #[]
  resolved := Array.replicate 8 none
  statics := none }

/-- the primitive boolean -/
def k6 : Class := { plain "boolean" none with kind := .primitive 'Z', accessFlags := 0x411 }
/-- [Z -/
def k7 : Class := { plain "[Z" (some 0) with kind := .array 6 .boolean, interfaces := #[4, 5], accessFlags := 1041 }

/-- the primitive byte -/
def k8 : Class := { plain "byte" none with kind := .primitive 'B', accessFlags := 0x411 }
/-- [B -/
def k9 : Class := { plain "[B" (some 0) with kind := .array 8 .byte, interfaces := #[4, 5], accessFlags := 1041 }

/-- the primitive double -/
def k10 : Class := { plain "double" none with kind := .primitive 'D', accessFlags := 0x411 }
/-- [D -/
def k11 : Class := { plain "[D" (some 0) with kind := .array 10 .double, interfaces := #[4, 5], accessFlags := 1041 }

/-- the primitive int -/
def k12 : Class := { plain "int" none with kind := .primitive 'I', accessFlags := 0x411 }
/-- [I -/
def k13 : Class := { plain "[I" (some 0) with kind := .array 12 .int, interfaces := #[4, 5], accessFlags := 1041 }

def heap : Heap := #[]
def classes : Array Class := #[k0, k1, k2, k3, k4, k5, k6, k7, k8, k9, k10, k11, k12, k13]
def interned : List (Array UInt16 × Addr) := []
def slotsUsed : Nat := 0
def theMethod : MethodId := ⟨1, 1⟩
def args0 : Array Value := #[.int 5, .int 5, .int 5]
def aboutOver (below : List Frame) : State where
  vm := { classes := classes, interned := interned.toArray }
  heap := heap
  slotsUsed := slotsUsed
  threads := #[{ frames := .invoking theMethod args0 :: below }]
def below0 : List Frame := [.native { method := ⟨0, 0⟩, args := #[] }]
def about1 : State := aboutOver below0
def p0 : Program := .bare "" "" ""
def e0 : Env := launch0.env 0 0 0
theorem w_frames : about1.frames = Frame.invoking theMethod args0 :: below0 := rfl
set_option maxRecDepth 65536 in
theorem w_args : argsFit about1.vm theMethod args0 = true := by decide +kernel
set_option maxRecDepth 65536 in
theorem w_heap : heapFits about1 = true := by decide +kernel
set_option maxRecDepth 65536 in
theorem w_runnable : about1.curStatus? = some .runnable := by decide +kernel
set_option maxRecDepth 65536 in
theorem w_alone : about1.alone = true := by decide +kernel
set_option maxRecDepth 65536 in
theorem w_named : about1.methodNamed? x = some theMethod := by decide +kernel
set_option maxRecDepth 65536 in
theorem w_hears : about1.hears theMethod below0 = true := by decide +kernel
set_option maxRecDepth 65536 in
theorem w_ripe : about1.ripe theMethod args0 below0 = true := by decide +kernel
theorem w_running : about1.status = .running := rfl
set_option maxRecDepth 65536 in
theorem w_room : about1.hasRoom e0.platform room_1 = true :=
  launch0.hasRoom_least _ room_1 (by decide +kernel) (by decide +kernel) (by decide +kernel) (by decide +kernel) (by decide +kernel) (by decide +kernel)
theorem allAtoms_all (ts : List Jvm.Cond) (a : Array Jvm.Value) (st : Jvm.State) : (allAtoms ts).before a st = ts.all (fun c => c.before a st) := by
  induction ts with
  | nil => rfl
  | cons c t ih =>
    show (Jvm.Cond.and c (allAtoms t)).before a st = _
    rw [Jvm.Cond.before_and, ih, List.all_cons]
def words1 : List Jvm.Cond := Jvm.Cond.code x code maxLocals ret :: tables_1
/-- a 'code' word, met by the world's own term for the bytes: nothing is compared byte by byte -/
theorem code_word {y : MethodName} {bytes : ByteArray} {mx : Nat} {rt : Option FieldType} {a : Array Value} {s : State} {m : MethodId} {meth : Method} {c : Code} (h1 : s.methodNamed? y = some m) (h2 : s.vm.method? m = some meth) (h3 : meth.code = some c) (h4 : c.code = bytes)
    (h5 : (c.maxLocals == mx && c.exceptionTable.isEmpty && decide (c.maxStack ≤ mostOperands) && decide (meth.sig.returnType = rt) && !meth.locks && decide (parseMethodDescriptor y.desc = some meth.sig)) = true) : (Jvm.Cond.code y bytes mx rt).before a s = true := by
  simp only [Bool.and_eq_true, beq_iff_eq, Bool.not_eq_true', decide_eq_true_eq] at h5
  obtain ⟨⟨⟨⟨⟨g1, g2⟩, g3⟩, g4⟩, g5⟩, g6⟩ := h5
  simp [Cond.before, Cond.holds, Cond.value, h1, h2, h3, h4, g1, g2, g3, g4, g5, g6]
def isCode : Jvm.Cond → Bool
  | .code _ _ _ _ => true
  | _ => false
theorem all_split {L : List Jvm.Cond} {P : Jvm.Cond → Bool} (h1 : L.all (fun c => isCode c || P c) = true) (h2 : ∀ c ∈ L.filter isCode, P c = true) : L.all P = true := by
  refine List.all_eq_true.mpr fun c hc => ?_
  have h := List.all_eq_true.mp h1 c hc
  rcases Bool.eq_false_or_eq_true (isCode c) with hi | hi
  · exact h2 c (List.mem_filter.mpr ⟨hc, hi⟩)
  · simpa [hi] using h
set_option maxRecDepth 65536 in
theorem w_c0 : (Jvm.Cond.code x code maxLocals ret).before args0 about1 = true := code_word (m := ⟨1, 1⟩) (meth := k1m1) (c := k1c1) (by decide +kernel) rfl rfl rfl (by decide +kernel)
set_option maxRecDepth 65536 in
theorem w_c1 : (Jvm.Cond.code ({ cls := "com/example/sightline/sightline/checker/ByActivity", name := "<init>", desc := "(I)V" } : Jvm.MethodName) prog_2_method_1_code (2 : Nat) (Option.none : Option Jvm.ClassFile.FieldType)).before args0 about1 = true := code_word (m := ⟨2, 0⟩) (meth := k2m0) (c := k2c0) (by decide +kernel) rfl rfl rfl (by decide +kernel)
set_option maxRecDepth 65536 in
theorem w_c2 : (Jvm.Cond.code ({ cls := "java/lang/Object", name := "<init>", desc := "()V" } : Jvm.MethodName) object_method_1_code (1 : Nat) (Option.none : Option Jvm.ClassFile.FieldType)).before args0 about1 = true := code_word (m := ⟨0, 0⟩) (meth := k0m0) (c := k0c0) (by decide +kernel) rfl rfl rfl (by decide +kernel)
set_option maxRecDepth 65536 in
theorem w_c3 : (Jvm.Cond.code ({ cls := "com/example/sightline/sightline/checker/ByActivityPopPinLaw", name := "bumpIf", desc := "(Lcom/example/sightline/sightline/checker/ByActivity;[I[ZIII)V" } : Jvm.MethodName) method_3_code (7 : Nat) (Option.none : Option Jvm.ClassFile.FieldType)).before args0 about1 = true := code_word (m := ⟨1, 2⟩) (meth := k1m2) (c := k1c2) (by decide +kernel) rfl rfl rfl (by decide +kernel)
set_option maxRecDepth 65536 in
theorem w_c4 : (Jvm.Cond.code ({ cls := "com/example/sightline/sightline/checker/ByActivity", name := "bump", desc := "(I)V" } : Jvm.MethodName) prog_2_method_2_code (2 : Nat) (Option.none : Option Jvm.ClassFile.FieldType)).before args0 about1 = true := code_word (m := ⟨2, 1⟩) (meth := k2m1) (c := k2c1) (by decide +kernel) rfl rfl rfl (by decide +kernel)
set_option maxRecDepth 65536 in
theorem w_c5 : (Jvm.Cond.code ({ cls := "java/util/Arrays", name := "fill", desc := "([II)V" } : Jvm.MethodName) jdk_65_method_103_code (4 : Nat) (Option.none : Option Jvm.ClassFile.FieldType)).before args0 about1 = true := code_word (m := ⟨3, 1⟩) (meth := k3m1) (c := k3c1) (by decide +kernel) rfl rfl rfl (by decide +kernel)
set_option maxRecDepth 65536 in
theorem w_c6 : (Jvm.Cond.code ({ cls := "com/example/sightline/sightline/checker/ByActivity", name := "push", desc := "(I)V" } : Jvm.MethodName) prog_2_method_6_code (2 : Nat) (Option.none : Option Jvm.ClassFile.FieldType)).before args0 about1 = true := code_word (m := ⟨2, 4⟩) (meth := k2m4) (c := k2c4) (by decide +kernel) rfl rfl rfl (by decide +kernel)
set_option maxRecDepth 65536 in
theorem w_c7 : (Jvm.Cond.code ({ cls := "com/example/sightline/sightline/checker/ByActivity", name := "place", desc := "(II)V" } : Jvm.MethodName) prog_2_method_10_code (3 : Nat) (Option.none : Option Jvm.ClassFile.FieldType)).before args0 about1 = true := code_word (m := ⟨2, 7⟩) (meth := k2m7) (c := k2c7) (by decide +kernel) rfl rfl rfl (by decide +kernel)
set_option maxRecDepth 65536 in
theorem w_c8 : (Jvm.Cond.code ({ cls := "com/example/sightline/sightline/checker/ByActivity", name := "up", desc := "(I)V" } : Jvm.MethodName) prog_2_method_8_code (3 : Nat) (Option.none : Option Jvm.ClassFile.FieldType)).before args0 about1 = true := code_word (m := ⟨2, 5⟩) (meth := k2m5) (c := k2c5) (by decide +kernel) rfl rfl rfl (by decide +kernel)
set_option maxRecDepth 65536 in
theorem w_c9 : (Jvm.Cond.code ({ cls := "com/example/sightline/sightline/checker/ByActivityPopPinLaw", name := "popCheck", desc := "(Lcom/example/sightline/sightline/checker/ByActivity;[I[Z)Z" } : Jvm.MethodName) method_5_code (5 : Nat) (Option.some Jvm.ClassFile.FieldType.boolean)).before args0 about1 = true := code_word (m := ⟨1, 4⟩) (meth := k1m4) (c := k1c4) (by decide +kernel) rfl rfl rfl (by decide +kernel)
set_option maxRecDepth 65536 in
theorem w_c10 : (Jvm.Cond.code ({ cls := "com/example/sightline/sightline/checker/ByActivity", name := "isEmpty", desc := "()Z" } : Jvm.MethodName) prog_2_method_4_code (1 : Nat) (Option.some Jvm.ClassFile.FieldType.boolean)).before args0 about1 = true := code_word (m := ⟨2, 2⟩) (meth := k2m2) (c := k2c2) (by decide +kernel) rfl rfl rfl (by decide +kernel)
set_option maxRecDepth 65536 in
theorem w_c11 : (Jvm.Cond.code ({ cls := "com/example/sightline/sightline/checker/ByActivity", name := "pop", desc := "()I" } : Jvm.MethodName) prog_2_method_5_code (2 : Nat) (Option.some Jvm.ClassFile.FieldType.int)).before args0 about1 = true := code_word (m := ⟨2, 3⟩) (meth := k2m3) (c := k2c3) (by decide +kernel) rfl rfl rfl (by decide +kernel)
set_option maxRecDepth 65536 in
theorem w_c12 : (Jvm.Cond.code ({ cls := "com/example/sightline/sightline/checker/ByActivityPopPinLaw", name := "beats", desc := "([I[ZII)Z" } : Jvm.MethodName) method_4_code (4 : Nat) (Option.some Jvm.ClassFile.FieldType.boolean)).before args0 about1 = true := code_word (m := ⟨1, 3⟩) (meth := k1m3) (c := k1c3) (by decide +kernel) rfl rfl rfl (by decide +kernel)
set_option maxRecDepth 65536 in
theorem w_c13 : (Jvm.Cond.code ({ cls := "com/example/sightline/sightline/checker/ByActivity", name := "down", desc := "(I)V" } : Jvm.MethodName) prog_2_method_9_code (4 : Nat) (Option.none : Option Jvm.ClassFile.FieldType)).before args0 about1 = true := code_word (m := ⟨2, 6⟩) (meth := k2m6) (c := k2c6) (by decide +kernel) rfl rfl rfl (by decide +kernel)
def codes1 : List Jvm.Cond := [Jvm.Cond.code x code maxLocals ret, Jvm.Cond.code ({ cls := "com/example/sightline/sightline/checker/ByActivity", name := "<init>", desc := "(I)V" } : Jvm.MethodName) prog_2_method_1_code (2 : Nat) (Option.none : Option Jvm.ClassFile.FieldType), Jvm.Cond.code ({ cls := "java/lang/Object", name := "<init>", desc := "()V" } : Jvm.MethodName) object_method_1_code (1 : Nat) (Option.none : Option Jvm.ClassFile.FieldType), Jvm.Cond.code ({ cls := "com/example/sightline/sightline/checker/ByActivityPopPinLaw", name := "bumpIf", desc := "(Lcom/example/sightline/sightline/checker/ByActivity;[I[ZIII)V" } : Jvm.MethodName) method_3_code (7 : Nat) (Option.none : Option Jvm.ClassFile.FieldType), Jvm.Cond.code ({ cls := "com/example/sightline/sightline/checker/ByActivity", name := "bump", desc := "(I)V" } : Jvm.MethodName) prog_2_method_2_code (2 : Nat) (Option.none : Option Jvm.ClassFile.FieldType), Jvm.Cond.code ({ cls := "java/util/Arrays", name := "fill", desc := "([II)V" } : Jvm.MethodName) jdk_65_method_103_code (4 : Nat) (Option.none : Option Jvm.ClassFile.FieldType), Jvm.Cond.code ({ cls := "com/example/sightline/sightline/checker/ByActivity", name := "push", desc := "(I)V" } : Jvm.MethodName) prog_2_method_6_code (2 : Nat) (Option.none : Option Jvm.ClassFile.FieldType), Jvm.Cond.code ({ cls := "com/example/sightline/sightline/checker/ByActivity", name := "place", desc := "(II)V" } : Jvm.MethodName) prog_2_method_10_code (3 : Nat) (Option.none : Option Jvm.ClassFile.FieldType), Jvm.Cond.code ({ cls := "com/example/sightline/sightline/checker/ByActivity", name := "up", desc := "(I)V" } : Jvm.MethodName) prog_2_method_8_code (3 : Nat) (Option.none : Option Jvm.ClassFile.FieldType), Jvm.Cond.code ({ cls := "com/example/sightline/sightline/checker/ByActivityPopPinLaw", name := "popCheck", desc := "(Lcom/example/sightline/sightline/checker/ByActivity;[I[Z)Z" } : Jvm.MethodName) method_5_code (5 : Nat) (Option.some Jvm.ClassFile.FieldType.boolean), Jvm.Cond.code ({ cls := "com/example/sightline/sightline/checker/ByActivity", name := "isEmpty", desc := "()Z" } : Jvm.MethodName) prog_2_method_4_code (1 : Nat) (Option.some Jvm.ClassFile.FieldType.boolean), Jvm.Cond.code ({ cls := "com/example/sightline/sightline/checker/ByActivity", name := "pop", desc := "()I" } : Jvm.MethodName) prog_2_method_5_code (2 : Nat) (Option.some Jvm.ClassFile.FieldType.int), Jvm.Cond.code ({ cls := "com/example/sightline/sightline/checker/ByActivityPopPinLaw", name := "beats", desc := "([I[ZII)Z" } : Jvm.MethodName) method_4_code (4 : Nat) (Option.some Jvm.ClassFile.FieldType.boolean), Jvm.Cond.code ({ cls := "com/example/sightline/sightline/checker/ByActivity", name := "down", desc := "(I)V" } : Jvm.MethodName) prog_2_method_9_code (4 : Nat) (Option.none : Option Jvm.ClassFile.FieldType)]
set_option maxRecDepth 65536 in
theorem codes_eq : words1.filter isCode = codes1 := rfl
theorem w_codes : ∀ c ∈ words1.filter isCode, c.before args0 about1 = true := by
  rw [codes_eq]
  intro c hc
  simp only [codes1, List.mem_cons, List.not_mem_nil, or_false] at hc
  rcases hc with rfl | rfl | rfl | rfl | rfl | rfl | rfl | rfl | rfl | rfl | rfl | rfl | rfl | rfl
  · exact w_c0
  · exact w_c1
  · exact w_c2
  · exact w_c3
  · exact w_c4
  · exact w_c5
  · exact w_c6
  · exact w_c7
  · exact w_c8
  · exact w_c9
  · exact w_c10
  · exact w_c11
  · exact w_c12
  · exact w_c13
set_option maxRecDepth 65536 in
theorem w_t1 : (words1.take 24).all (fun c => isCode c || c.before args0 about1) = true := by decide +kernel
set_option maxRecDepth 65536 in
theorem w_t2 : ((words1.drop 24).take 24).all (fun c => isCode c || c.before args0 about1) = true := by decide +kernel
set_option maxRecDepth 65536 in
theorem w_t3 : ((words1.drop 24).drop 24).all (fun c => isCode c || c.before args0 about1) = true := by decide +kernel
theorem w_tables : (allAtoms (Jvm.Cond.code x code maxLocals ret :: tables_1)).before args0 about1 = true := by
  rw [allAtoms_all]
  show words1.all (fun c => c.before args0 about1) = true
  refine all_split ?_ w_codes
  rw [← List.take_append_drop 24 words1, List.all_append, w_t1, ← List.take_append_drop 24 (words1.drop 24), List.all_append, w_t2, w_t3]
  rfl
set_option maxRecDepth 65536 in
theorem w_case : (Jvm.Cond.and given_1 narrow_1).before args0 about1 = true := by decide +kernel
theorem w_applies : (headSpec (Jvm.Cond.code x code maxLocals ret :: tables_1) room_1).applies x e0.platform about1 = true :=
  (Spec.applies_iff w_frames).mpr ⟨w_running, w_runnable, w_alone, w_named, w_hears, w_ripe, w_room, w_tables⟩
theorem atStart : AtStart classFile x code maxLocals ret World_1 tables_1 room_1 Calls_1 rest_1 Pre_1 launch0 p0 e0 about1 theMethod args0 below0 :=
  ⟨lists_1, trivial, launch0.admits_env _ _ _, launch0.least_env, fairChoices_fair.cas, fairChoices_fair.clock, w_frames, w_args, w_heap, w_applies, trivial, trivial, w_case⟩
end start1
theorem witness_1 : WitnessClaimed_1 := ⟨start1.p0, start1.e0, start1.about1, start1.theMethod, start1.args0, start1.below0, start1.atStart⟩
end Jvm.Pilot.@@N@@

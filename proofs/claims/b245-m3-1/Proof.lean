import JvmDerived
import JvmDerived.Pilot.@@N@@Statement
import JvmDerived.Pilot.@@N@@Code
set_option linter.unusedVariables false
set_option linter.unusedSimpArgs false
namespace Jvm.OwnWp
open Sem ClassFile Op Lib Jvm.Stand Jvm.Free Jvm.LawKit Jvm.RoadKit
/-- what holds of the method that is walked: its bytes, its class, its tables -/
def Cx (Z : State) (own nm : String) (bytes : ByteArray) (ml : Nat) (ret : Option FieldType) (p : Program) (s : State) (m : MethodId) (meth : Method) (c : Code) : Prop :=
  p.tables.exec = Jvm.exec ∧ Z.Warmed39 s.vm ∧ s.vm.findClass own = some m.cls ∧ c.code = bytes ∧ c.maxLocals = ml ∧ meth.sig.returnType = ret ∧ meth.locks = false ∧ meth.name = nm
/-- from the frame g over the heap h the method returns v at a heap of which Q holds; it has written fresh places alone -/
def GoE (En : Option Value → State → List Loc → Prop) (p : Program) (l : Launch) (e : Env) (R : Room) (s : State) (m : MethodId) (args : Array Value) (below : List Frame) (meth : Method) (c : Code) (n0 : Nat) (h : Heap) (ce sl : Nat) (g : JFrame) (Q : Option Value → Heap → Prop) : Prop :=
  ∀ (T : State) (L : List Loc), Stand p l e R s m args below meth c T L ce sl → Fr n0 L → T.heap = h →
    ∃ (s₂ : State) (v : Option Value) (L' : List Loc), Steps p.tables e below (T.setTop g) s₂ ∧ s₂.status = .running ∧ Ended s₂ below (.returned v) ∧ Fr n0 L' ∧ Q v s₂.heap ∧ En v s₂ L'
abbrev Go (p : Program) (l : Launch) (e : Env) (R : Room) (s : State) (m : MethodId) (args : Array Value) (below : List Frame) (meth : Method) (c : Code) (n0 : Nat) (h : Heap) (ce sl : Nat) (g : JFrame) (Q : Option Value → Heap → Prop) : Prop := GoE (fun v s₂ L' => FrameEnd s (.returned v) s₂ L' R.cells R.slots) p l e R s m args below meth c n0 h ce sl g Q
/-- the contract of a method: called with the values as' over the heap h it returns as Q says -/
def Ctr (l : Launch) (Z : State) (y : MethodName) (bytes : ByteArray) (ml : Nat) (ret : Option FieldType) (ws : List Cond) (rm : Room) (n0 : Nat) (as' : Array Value) (h : Heap) (Q : Option Value → Heap → Prop) : Prop :=
  MetFree l y (head1 (Cond.code y bytes ml ret :: ws) rm) (fun a U => a = as' ∧ Z.Warmed39 U.vm ∧ U.heap = h) (fun _ _ _ _ _ => True) (fun _ U o U' => ∃ v L, o = .returned v ∧ (Q v U'.heap ∧ Fr n0 L) ∧ FrameEnd U o U' L rm.cells rm.slots)
section Walk
variable {p : Program} {l : Launch} {e : Env} {R : Room} {s : State} {m : MethodId} {args : Array Value} {below : List Frame} {meth : Method} {c : Code} {Z : State} {a0 : Array Value} {own nm : String} {bytes : ByteArray} {ml : Nat} {ret : Option FieldType} {n0 ce sl pc pc' : Nat} {h : Heap} {Ls Ls' : Array Slot} {S : List Value} {Q : Option Value → Heap → Prop} {En : Option Value → State → List Loc → Prop}
theorem one {g g' : JFrame} (st : ∀ (T : State) (L : List Loc), Stand p l e R s m args below meth c T L ce sl → T.heap = h → ∀ t, Steps p.tables e below (T.setTop g') t → Steps p.tables e below (T.setTop g) t) (q : GoE En p l e R s m args below meth c n0 h ce sl g' Q) : GoE En p l e R s m args below meth c n0 h ce sl g Q := fun T L X N eT => by
  obtain ⟨s₂, v, L', a1, r⟩ := q T L X N eT
  exact ⟨s₂, v, L', st T L X eT _ a1, r⟩
/-- a step that goes to another state over the same heap -/
theorem oneT {g g' : JFrame} (st : ∀ (T : State) (L : List Loc), Stand p l e R s m args below meth c T L ce sl → T.heap = h → ∃ T', Stand p l e R s m args below meth c T' L ce sl ∧ T'.heap = h ∧ ∀ t, Steps p.tables e below (T'.setTop g') t → Steps p.tables e below (T.setTop g) t) (q : GoE En p l e R s m args below meth c n0 h ce sl g' Q) : GoE En p l e R s m args below meth c n0 h ce sl g Q := fun T L X N eT => by
  obtain ⟨T', X', eT', k⟩ := st T L X eT
  obtain ⟨s₂, v, L', a1, r⟩ := q T' L X' N eT'
  exact ⟨s₂, v, L', k _ a1, r⟩
theorem Go.cast {g g' : JFrame} (q : g = g') (k : GoE En p l e R s m args below meth c n0 h ce sl g' Q) : GoE En p l e R s m args below meth c n0 h ce sl g Q := q ▸ k
theorem Go.mono {g : JFrame} {Q' : Option Value → Heap → Prop} (k : GoE En p l e R s m args below meth c n0 h ce sl g Q') (q : ∀ v h, Q' v h → Q v h) : GoE En p l e R s m args below meth c n0 h ce sl g Q := fun T L X N eT => by
  obtain ⟨s₂, v, L', a1, a2, a3, a4, a5, r⟩ := k T L X N eT
  exact ⟨s₂, v, L', a1, a2, a3, a4, q _ _ a5, r⟩

theorem iloadN (K : Cx Z own nm bytes ml ret p s m meth c) {k : Fin 4} {v : Int32} (hd : decode bytes pc = .ok (.iload_n k, 1)) (hl : Ls[k.val]? = some (.val (.int v))) (hp : pc + 1 = pc') (q : GoE En p l e R s m args below meth c n0 h ce sl (mkF m pc' Ls (.int v :: S)) Q) : GoE En p l e R s m args below meth c n0 h ce sl (mkF m pc Ls S) Q := by
  subst hp; exact one (fun T L X _ t => Jvm.Free.XS.iloadN X.here K.1 rfl (hb K.2.2.2.1 hd) hl) q
theorem iload (K : Cx Z own nm bytes ml ret p s m meth c) {k : Nat} {v : Int32} (hd : decode bytes pc = .ok (.iload k, 2)) (hl : Ls[k]? = some (.val (.int v))) (hp : pc + 2 = pc') (q : GoE En p l e R s m args below meth c n0 h ce sl (mkF m pc' Ls (.int v :: S)) Q) : GoE En p l e R s m args below meth c n0 h ce sl (mkF m pc Ls S) Q := by
  subst hp; exact one (fun T L X _ t => Jvm.Free.XS.iload X.here K.1 rfl (hb K.2.2.2.1 hd) hl) q
theorem istoreN (K : Cx Z own nm bytes ml ret p s m meth c) {k : Fin 4} {v : Int32} (hd : decode bytes pc = .ok (.istore_n k, 1)) (hl : storeLocals Ls k.val (.int v) = some Ls') (hp : pc + 1 = pc') (q : GoE En p l e R s m args below meth c n0 h ce sl (mkF m pc' Ls' S) Q) : GoE En p l e R s m args below meth c n0 h ce sl (mkF m pc Ls (.int v :: S)) Q := by
  subst hp; exact one (fun T L X _ t => Jvm.Free.XS.istoreN X.here K.1 rfl (hb K.2.2.2.1 hd) rfl hl) q
theorem istore (K : Cx Z own nm bytes ml ret p s m meth c) {k : Nat} {v : Int32} (hd : decode bytes pc = .ok (.istore k, 2)) (hl : storeLocals Ls k (.int v) = some Ls') (hp : pc + 2 = pc') (q : GoE En p l e R s m args below meth c n0 h ce sl (mkF m pc' Ls' S) Q) : GoE En p l e R s m args below meth c n0 h ce sl (mkF m pc Ls (.int v :: S)) Q := by
  subst hp; exact one (fun T L X _ t => Jvm.Free.XS.istore X.here K.1 rfl (hb K.2.2.2.1 hd) rfl hl) q
theorem lloadN (K : Cx Z own nm bytes ml ret p s m meth c) {k : Fin 4} {v : Int64} (hd : decode bytes pc = .ok (.lload_n k, 1)) (hl : Ls[k.val]? = some (.val (.long v))) (hp : pc + 1 = pc') (q : GoE En p l e R s m args below meth c n0 h ce sl (mkF m pc' Ls (.long v :: S)) Q) : GoE En p l e R s m args below meth c n0 h ce sl (mkF m pc Ls S) Q := by
  subst hp; exact one (fun T L X _ t => Jvm.Free.XT.lloadN X.here K.1 rfl (hb K.2.2.2.1 hd) hl) q
theorem lload (K : Cx Z own nm bytes ml ret p s m meth c) {k : Nat} {v : Int64} (hd : decode bytes pc = .ok (.lload k, 2)) (hl : Ls[k]? = some (.val (.long v))) (hp : pc + 2 = pc') (q : GoE En p l e R s m args below meth c n0 h ce sl (mkF m pc' Ls (.long v :: S)) Q) : GoE En p l e R s m args below meth c n0 h ce sl (mkF m pc Ls S) Q := by
  subst hp; exact one (fun T L X _ t => Jvm.Free.XT.lload X.here K.1 rfl (hb K.2.2.2.1 hd) hl) q
theorem lstoreN (K : Cx Z own nm bytes ml ret p s m meth c) {k : Fin 4} {v : Int64} (hd : decode bytes pc = .ok (.lstore_n k, 1)) (hl : storeLocals Ls k.val (.long v) = some Ls') (hp : pc + 1 = pc') (q : GoE En p l e R s m args below meth c n0 h ce sl (mkF m pc' Ls' S) Q) : GoE En p l e R s m args below meth c n0 h ce sl (mkF m pc Ls (.long v :: S)) Q := by
  subst hp; exact one (fun T L X _ t => Jvm.Free.XT.lstoreN X.here K.1 rfl (hb K.2.2.2.1 hd) rfl hl) q
theorem lstore (K : Cx Z own nm bytes ml ret p s m meth c) {k : Nat} {v : Int64} (hd : decode bytes pc = .ok (.lstore k, 2)) (hl : storeLocals Ls k (.long v) = some Ls') (hp : pc + 2 = pc') (q : GoE En p l e R s m args below meth c n0 h ce sl (mkF m pc' Ls' S) Q) : GoE En p l e R s m args below meth c n0 h ce sl (mkF m pc Ls (.long v :: S)) Q := by
  subst hp; exact one (fun T L X _ t => Jvm.Free.XT.lstore X.here K.1 rfl (hb K.2.2.2.1 hd) rfl hl) q
theorem dloadN (K : Cx Z own nm bytes ml ret p s m meth c) {k : Fin 4} {v : UInt64} (hd : decode bytes pc = .ok (.dload_n k, 1)) (hl : Ls[k.val]? = some (.val (.double v))) (hp : pc + 1 = pc') (q : GoE En p l e R s m args below meth c n0 h ce sl (mkF m pc' Ls (.double v :: S)) Q) : GoE En p l e R s m args below meth c n0 h ce sl (mkF m pc Ls S) Q := by
  subst hp; exact one (fun T L X _ t => Jvm.Free.XS.dloadN X.here K.1 rfl (hb K.2.2.2.1 hd) hl) q
theorem dload (K : Cx Z own nm bytes ml ret p s m meth c) {k : Nat} {v : UInt64} (hd : decode bytes pc = .ok (.dload k, 2)) (hl : Ls[k]? = some (.val (.double v))) (hp : pc + 2 = pc') (q : GoE En p l e R s m args below meth c n0 h ce sl (mkF m pc' Ls (.double v :: S)) Q) : GoE En p l e R s m args below meth c n0 h ce sl (mkF m pc Ls S) Q := by
  subst hp; exact one (fun T L X _ t => Jvm.Free.XS.dload X.here K.1 rfl (hb K.2.2.2.1 hd) hl) q
theorem dstoreN (K : Cx Z own nm bytes ml ret p s m meth c) {k : Fin 4} {v : UInt64} (hd : decode bytes pc = .ok (.dstore_n k, 1)) (hl : storeLocals Ls k.val (.double v) = some Ls') (hp : pc + 1 = pc') (q : GoE En p l e R s m args below meth c n0 h ce sl (mkF m pc' Ls' S) Q) : GoE En p l e R s m args below meth c n0 h ce sl (mkF m pc Ls (.double v :: S)) Q := by
  subst hp; exact one (fun T L X _ t => Jvm.Free.XS.dstoreN X.here K.1 rfl (hb K.2.2.2.1 hd) rfl hl) q
theorem dstore (K : Cx Z own nm bytes ml ret p s m meth c) {k : Nat} {v : UInt64} (hd : decode bytes pc = .ok (.dstore k, 2)) (hl : storeLocals Ls k (.double v) = some Ls') (hp : pc + 2 = pc') (q : GoE En p l e R s m args below meth c n0 h ce sl (mkF m pc' Ls' S) Q) : GoE En p l e R s m args below meth c n0 h ce sl (mkF m pc Ls (.double v :: S)) Q := by
  subst hp; exact one (fun T L X _ t => Jvm.Free.XS.dstore X.here K.1 rfl (hb K.2.2.2.1 hd) rfl hl) q
theorem aloadN (K : Cx Z own nm bytes ml ret p s m meth c) {k : Fin 4} {v : Value} (hd : decode bytes pc = .ok (.aload_n k, 1)) (hl : Ls[k.val]? = some (.val v)) (hv : v.isRef = true) (hp : pc + 1 = pc') (q : GoE En p l e R s m args below meth c n0 h ce sl (mkF m pc' Ls (v :: S)) Q) : GoE En p l e R s m args below meth c n0 h ce sl (mkF m pc Ls S) Q := by
  subst hp; exact one (fun T L X _ t => Jvm.Free.XS.aloadN X.here K.1 rfl (hb K.2.2.2.1 hd) hl hv) q
theorem aload (K : Cx Z own nm bytes ml ret p s m meth c) {k : Nat} {v : Value} (hd : decode bytes pc = .ok (.aload k, 2)) (hl : Ls[k]? = some (.val v)) (hv : v.isRef = true) (hp : pc + 2 = pc') (q : GoE En p l e R s m args below meth c n0 h ce sl (mkF m pc' Ls (v :: S)) Q) : GoE En p l e R s m args below meth c n0 h ce sl (mkF m pc Ls S) Q := by
  subst hp; exact one (fun T L X _ t => Jvm.Free.XS.aload X.here K.1 rfl (hb K.2.2.2.1 hd) hl hv) q
theorem astoreN (K : Cx Z own nm bytes ml ret p s m meth c) {k : Fin 4} {v : Value} (hd : decode bytes pc = .ok (.astore_n k, 1)) (hv : v.isRef = true) (hl : storeLocals Ls k.val v = some Ls') (hp : pc + 1 = pc') (q : GoE En p l e R s m args below meth c n0 h ce sl (mkF m pc' Ls' S) Q) : GoE En p l e R s m args below meth c n0 h ce sl (mkF m pc Ls (v :: S)) Q := by
  subst hp; exact one (fun T L X _ t => Jvm.Free.XS.astoreN X.here K.1 rfl (hb K.2.2.2.1 hd) rfl hv hl) q
theorem astore (K : Cx Z own nm bytes ml ret p s m meth c) {k : Nat} {v : Value} (hd : decode bytes pc = .ok (.astore k, 2)) (hv : v.isRef = true) (hl : storeLocals Ls k v = some Ls') (hp : pc + 2 = pc') (q : GoE En p l e R s m args below meth c n0 h ce sl (mkF m pc' Ls' S) Q) : GoE En p l e R s m args below meth c n0 h ce sl (mkF m pc Ls (v :: S)) Q := by
  subst hp; exact one (fun T L X _ t => Jvm.Free.XS.astore X.here K.1 rfl (hb K.2.2.2.1 hd) rfl hv hl) q
theorem iconst (K : Cx Z own nm bytes ml ret p s m meth c) {i : Int} (v : Int32) (hd : decode bytes pc = .ok (.iconst i, 1)) (hv : Int32.ofInt i = v) (hp : pc + 1 = pc') (q : GoE En p l e R s m args below meth c n0 h ce sl (mkF m pc' Ls (.int v :: S)) Q) : GoE En p l e R s m args below meth c n0 h ce sl (mkF m pc Ls S) Q := by
  subst hp; exact one (fun T L X _ t => Jvm.Free.XT.iconstV X.here K.1 rfl v (hb K.2.2.2.1 hd) hv) q
theorem bipush (K : Cx Z own nm bytes ml ret p s m meth c) {i : Int} (v : Int32) (hd : decode bytes pc = .ok (.bipush i, 2)) (hv : (Int8.ofInt i).toInt32 = v) (hp : pc + 2 = pc') (q : GoE En p l e R s m args below meth c n0 h ce sl (mkF m pc' Ls (.int v :: S)) Q) : GoE En p l e R s m args below meth c n0 h ce sl (mkF m pc Ls S) Q := by
  subst hp; exact one (fun T L X _ t => Jvm.Free.XT.bipushV X.here K.1 rfl v (hb K.2.2.2.1 hd) hv) q
theorem sipush (K : Cx Z own nm bytes ml ret p s m meth c) {i : Int} (v : Int32) (hd : decode bytes pc = .ok (.sipush i, 3)) (hv : (Int16.ofInt i).toInt32 = v) (hp : pc + 3 = pc') (q : GoE En p l e R s m args below meth c n0 h ce sl (mkF m pc' Ls (.int v :: S)) Q) : GoE En p l e R s m args below meth c n0 h ce sl (mkF m pc Ls S) Q := by
  subst hp; exact one (fun T L X _ t => Jvm.Free.XT.sipushV X.here K.1 rfl v (hb K.2.2.2.1 hd) hv) q
theorem lconst (K : Cx Z own nm bytes ml ret p s m meth c) {i : Fin 2} (v : Int64) (hd : decode bytes pc = .ok (.lconst i, 1)) (hv : Int64.ofNat i = v) (hp : pc + 1 = pc') (q : GoE En p l e R s m args below meth c n0 h ce sl (mkF m pc' Ls (.long v :: S)) Q) : GoE En p l e R s m args below meth c n0 h ce sl (mkF m pc Ls S) Q := by
  subst hp; exact one (fun T L X _ t => Jvm.Free.XT.lconstV X.here K.1 rfl v (hb K.2.2.2.1 hd) hv) q
theorem istoreS (K : Cx Z own nm bytes ml ret p s m meth c) {k : Nat} {x : Int32} {o : Slot} (hd : decode bytes pc = .ok (.istore k, 2)) (hold : Ls[k]? = some o) (ho : One o) (hl : Ls.setIfInBounds k (.val (.int x)) = Ls') (hp : pc + 2 = pc') (q : GoE En p l e R s m args below meth c n0 h ce sl (mkF m pc' Ls' S) Q) : GoE En p l e R s m args below meth c n0 h ce sl (mkF m pc Ls (.int x :: S)) Q := by
  subst hp hl; exact one (fun T L X _ t => Jvm.Free.XS.istoreS X.here K.1 rfl (hb K.2.2.2.1 hd) rfl hold ho) q
theorem istoreNS (K : Cx Z own nm bytes ml ret p s m meth c) {k : Fin 4} {x : Int32} {o : Slot} (hd : decode bytes pc = .ok (.istore_n k, 1)) (hold : Ls[k.val]? = some o) (ho : One o) (hl : Ls.setIfInBounds k.val (.val (.int x)) = Ls') (hp : pc + 1 = pc') (q : GoE En p l e R s m args below meth c n0 h ce sl (mkF m pc' Ls' S) Q) : GoE En p l e R s m args below meth c n0 h ce sl (mkF m pc Ls (.int x :: S)) Q := by
  subst hp hl; exact one (fun T L X _ t => Jvm.Free.XS.istoreNS X.here K.1 rfl (hb K.2.2.2.1 hd) rfl hold ho) q
theorem dconst0 (K : Cx Z own nm bytes ml ret p s m meth c) {v : UInt64} (hd : decode bytes pc = .ok (.dconst 0, 1)) (hv : FP.dconst0 = v) (hp : pc + 1 = pc') (q : GoE En p l e R s m args below meth c n0 h ce sl (mkF m pc' Ls (.double v :: S)) Q) : GoE En p l e R s m args below meth c n0 h ce sl (mkF m pc Ls S) Q := by
  subst hp; exact one (fun T L X _ t => Jvm.Free.XS.dconst0 X.here K.1 rfl (hb K.2.2.2.1 hd) hv) q
theorem dconst1 (K : Cx Z own nm bytes ml ret p s m meth c) {v : UInt64} (hd : decode bytes pc = .ok (.dconst 1, 1)) (hv : FP.dconst1 = v) (hp : pc + 1 = pc') (q : GoE En p l e R s m args below meth c n0 h ce sl (mkF m pc' Ls (.double v :: S)) Q) : GoE En p l e R s m args below meth c n0 h ce sl (mkF m pc Ls S) Q := by
  subst hp; exact one (fun T L X _ t => Jvm.Free.XS.dconst1 X.here K.1 rfl (hb K.2.2.2.1 hd) hv) q
theorem anull (K : Cx Z own nm bytes ml ret p s m meth c) (hd : decode bytes pc = .ok (.aconst_null, 1)) (hp : pc + 1 = pc') (q : GoE En p l e R s m args below meth c n0 h ce sl (mkF m pc' Ls (.null :: S)) Q) : GoE En p l e R s m args below meth c n0 h ce sl (mkF m pc Ls S) Q := by
  subst hp; exact one (fun T L X _ t => Jvm.Free.XS.aconstNull X.here K.1 rfl (hb K.2.2.2.1 hd) ) q
theorem iinc (K : Cx Z own nm bytes ml ret p s m meth c) {k : Nat} {i : Int} {x : Int32} (v : Int32) (hd : decode bytes pc = .ok (.iinc k i, 3)) (hv : Int32.ofInt i = v) (hl : Ls[k]? = some (.val (.int x))) (hl' : storeLocals Ls k (.int (x + v)) = some Ls') (hp : pc + 3 = pc') (q : GoE En p l e R s m args below meth c n0 h ce sl (mkF m pc' Ls' S) Q) : GoE En p l e R s m args below meth c n0 h ce sl (mkF m pc Ls S) Q := by
  subst hp; exact one (fun T L X _ t => Jvm.Free.XT.iincV X.here K.1 rfl v (hb K.2.2.2.1 hd) hv hl hl') q
theorem iadd (K : Cx Z own nm bytes ml ret p s m meth c) {x y : Int32} (hd : decode bytes pc = .ok (.iadd, 1)) (hp : pc + 1 = pc') (q : GoE En p l e R s m args below meth c n0 h ce sl (mkF m pc' Ls (.int (x + y) :: S)) Q) : GoE En p l e R s m args below meth c n0 h ce sl (mkF m pc Ls (.int y :: .int x :: S)) Q := by
  subst hp; exact one (fun T L X _ t => Jvm.Free.XS.iadd X.here K.1 rfl (hb K.2.2.2.1 hd) rfl) q
theorem isub (K : Cx Z own nm bytes ml ret p s m meth c) {x y : Int32} (hd : decode bytes pc = .ok (.isub, 1)) (hp : pc + 1 = pc') (q : GoE En p l e R s m args below meth c n0 h ce sl (mkF m pc' Ls (.int (x - y) :: S)) Q) : GoE En p l e R s m args below meth c n0 h ce sl (mkF m pc Ls (.int y :: .int x :: S)) Q := by
  subst hp; exact one (fun T L X _ t => Jvm.Free.XS.isub X.here K.1 rfl (hb K.2.2.2.1 hd) rfl) q
theorem imul (K : Cx Z own nm bytes ml ret p s m meth c) {x y : Int32} (hd : decode bytes pc = .ok (.imul, 1)) (hp : pc + 1 = pc') (q : GoE En p l e R s m args below meth c n0 h ce sl (mkF m pc' Ls (.int (x * y) :: S)) Q) : GoE En p l e R s m args below meth c n0 h ce sl (mkF m pc Ls (.int y :: .int x :: S)) Q := by
  subst hp; exact one (fun T L X _ t => Jvm.Free.XS.imul X.here K.1 rfl (hb K.2.2.2.1 hd) rfl) q
theorem iand (K : Cx Z own nm bytes ml ret p s m meth c) {x y : Int32} (hd : decode bytes pc = .ok (.iand, 1)) (hp : pc + 1 = pc') (q : GoE En p l e R s m args below meth c n0 h ce sl (mkF m pc' Ls (.int (x &&& y) :: S)) Q) : GoE En p l e R s m args below meth c n0 h ce sl (mkF m pc Ls (.int y :: .int x :: S)) Q := by
  subst hp; exact one (fun T L X _ t => Jvm.Free.XS.iand X.here K.1 rfl (hb K.2.2.2.1 hd) rfl) q
theorem ior (K : Cx Z own nm bytes ml ret p s m meth c) {x y : Int32} (hd : decode bytes pc = .ok (.ior, 1)) (hp : pc + 1 = pc') (q : GoE En p l e R s m args below meth c n0 h ce sl (mkF m pc' Ls (.int (x ||| y) :: S)) Q) : GoE En p l e R s m args below meth c n0 h ce sl (mkF m pc Ls (.int y :: .int x :: S)) Q := by
  subst hp; exact one (fun T L X _ t => Jvm.Free.XT.ior X.here K.1 rfl (hb K.2.2.2.1 hd) rfl) q
theorem ixor (K : Cx Z own nm bytes ml ret p s m meth c) {x y : Int32} (hd : decode bytes pc = .ok (.ixor, 1)) (hp : pc + 1 = pc') (q : GoE En p l e R s m args below meth c n0 h ce sl (mkF m pc' Ls (.int (x ^^^ y) :: S)) Q) : GoE En p l e R s m args below meth c n0 h ce sl (mkF m pc Ls (.int y :: .int x :: S)) Q := by
  subst hp; exact one (fun T L X _ t => Jvm.Free.XT.ixor X.here K.1 rfl (hb K.2.2.2.1 hd) rfl) q
theorem ishl (K : Cx Z own nm bytes ml ret p s m meth c) {x y : Int32} (hd : decode bytes pc = .ok (.ishl, 1)) (hp : pc + 1 = pc') (q : GoE En p l e R s m args below meth c n0 h ce sl (mkF m pc' Ls (.int (x <<< (y &&& 31)) :: S)) Q) : GoE En p l e R s m args below meth c n0 h ce sl (mkF m pc Ls (.int y :: .int x :: S)) Q := by
  subst hp; exact one (fun T L X _ t => Jvm.Free.XT.ishl X.here K.1 rfl (hb K.2.2.2.1 hd) rfl) q
theorem ishr (K : Cx Z own nm bytes ml ret p s m meth c) {x y : Int32} (hd : decode bytes pc = .ok (.ishr, 1)) (hp : pc + 1 = pc') (q : GoE En p l e R s m args below meth c n0 h ce sl (mkF m pc' Ls (.int (x >>> (y &&& 31)) :: S)) Q) : GoE En p l e R s m args below meth c n0 h ce sl (mkF m pc Ls (.int y :: .int x :: S)) Q := by
  subst hp; exact one (fun T L X _ t => Jvm.Free.XT.ishr X.here K.1 rfl (hb K.2.2.2.1 hd) rfl) q
theorem iushr (K : Cx Z own nm bytes ml ret p s m meth c) {x y : Int32} (hd : decode bytes pc = .ok (.iushr, 1)) (hp : pc + 1 = pc') (q : GoE En p l e R s m args below meth c n0 h ce sl (mkF m pc' Ls (.int ((x.toUInt32 >>> (y &&& 31).toUInt32).toInt32) :: S)) Q) : GoE En p l e R s m args below meth c n0 h ce sl (mkF m pc Ls (.int y :: .int x :: S)) Q := by
  subst hp; exact one (fun T L X _ t => Jvm.Free.XT.iushr X.here K.1 rfl (hb K.2.2.2.1 hd) rfl) q
theorem irem_mod (x y : Int32) : x - (x / y) * y = x % y := by
  apply Int32.toInt_inj.mp
  have h1 := Int32.le_toInt (x % y)
  have h2 := Int32.toInt_lt (x % y)
  rw [Int32.toInt_sub, Int32.toInt_mul, Int32.toInt_div, Int.bmod_mul_bmod, Int.sub_bmod_bmod, Int.mul_comm (x.toInt.tdiv y.toInt), ← Int.tmod_def, ← Int32.toInt_mod]
  exact Int.bmod_eq_of_le_mul_two (by omega) (by omega)
theorem irem (K : Cx Z own nm bytes ml ret p s m meth c) {x y : Int32} (hd : decode bytes pc = .ok (.irem, 1)) (hy : y ≠ 0) (hp : pc + 1 = pc') (q : GoE En p l e R s m args below meth c n0 h ce sl (mkF m pc' Ls (.int (x % y) :: S)) Q) : GoE En p l e R s m args below meth c n0 h ce sl (mkF m pc Ls (.int y :: .int x :: S)) Q := by
  subst hp; rw [← irem_mod] at q; exact one (fun T L X _ t => Jvm.Free.XS.irem X.here K.1 rfl (hb K.2.2.2.1 hd) rfl hy) q
theorem idiv (K : Cx Z own nm bytes ml ret p s m meth c) {x y : Int32} (hd : decode bytes pc = .ok (.idiv, 1)) (hy : y ≠ 0) (hp : pc + 1 = pc') (q : GoE En p l e R s m args below meth c n0 h ce sl (mkF m pc' Ls (.int (x / y) :: S)) Q) : GoE En p l e R s m args below meth c n0 h ce sl (mkF m pc Ls (.int y :: .int x :: S)) Q := by
  subst hp; exact one (fun T L X _ t => Jvm.Free.XS.idiv X.here K.1 rfl (hb K.2.2.2.1 hd) rfl hy) q
theorem ladd (K : Cx Z own nm bytes ml ret p s m meth c) {x y : Int64} (hd : decode bytes pc = .ok (.ladd, 1)) (hp : pc + 1 = pc') (q : GoE En p l e R s m args below meth c n0 h ce sl (mkF m pc' Ls (.long (x + y) :: S)) Q) : GoE En p l e R s m args below meth c n0 h ce sl (mkF m pc Ls (.long y :: .long x :: S)) Q := by
  subst hp; exact one (fun T L X _ t => Jvm.Free.XT.ladd X.here K.1 rfl (hb K.2.2.2.1 hd) rfl) q
theorem lsub (K : Cx Z own nm bytes ml ret p s m meth c) {x y : Int64} (hd : decode bytes pc = .ok (.lsub, 1)) (hp : pc + 1 = pc') (q : GoE En p l e R s m args below meth c n0 h ce sl (mkF m pc' Ls (.long (x - y) :: S)) Q) : GoE En p l e R s m args below meth c n0 h ce sl (mkF m pc Ls (.long y :: .long x :: S)) Q := by
  subst hp; exact one (fun T L X _ t => Jvm.Free.XT.lsub X.here K.1 rfl (hb K.2.2.2.1 hd) rfl) q
theorem lmul (K : Cx Z own nm bytes ml ret p s m meth c) {x y : Int64} (hd : decode bytes pc = .ok (.lmul, 1)) (hp : pc + 1 = pc') (q : GoE En p l e R s m args below meth c n0 h ce sl (mkF m pc' Ls (.long (x * y) :: S)) Q) : GoE En p l e R s m args below meth c n0 h ce sl (mkF m pc Ls (.long y :: .long x :: S)) Q := by
  subst hp; exact one (fun T L X _ t => Jvm.Free.XT.lmul X.here K.1 rfl (hb K.2.2.2.1 hd) rfl) q
theorem land (K : Cx Z own nm bytes ml ret p s m meth c) {x y : Int64} (hd : decode bytes pc = .ok (.land, 1)) (hp : pc + 1 = pc') (q : GoE En p l e R s m args below meth c n0 h ce sl (mkF m pc' Ls (.long (x &&& y) :: S)) Q) : GoE En p l e R s m args below meth c n0 h ce sl (mkF m pc Ls (.long y :: .long x :: S)) Q := by
  subst hp; exact one (fun T L X _ t => Jvm.Free.XT.land X.here K.1 rfl (hb K.2.2.2.1 hd) rfl) q
theorem lor (K : Cx Z own nm bytes ml ret p s m meth c) {x y : Int64} (hd : decode bytes pc = .ok (.lor, 1)) (hp : pc + 1 = pc') (q : GoE En p l e R s m args below meth c n0 h ce sl (mkF m pc' Ls (.long (x ||| y) :: S)) Q) : GoE En p l e R s m args below meth c n0 h ce sl (mkF m pc Ls (.long y :: .long x :: S)) Q := by
  subst hp; exact one (fun T L X _ t => Jvm.Free.XT.lor X.here K.1 rfl (hb K.2.2.2.1 hd) rfl) q
theorem lxor (K : Cx Z own nm bytes ml ret p s m meth c) {x y : Int64} (hd : decode bytes pc = .ok (.lxor, 1)) (hp : pc + 1 = pc') (q : GoE En p l e R s m args below meth c n0 h ce sl (mkF m pc' Ls (.long (x ^^^ y) :: S)) Q) : GoE En p l e R s m args below meth c n0 h ce sl (mkF m pc Ls (.long y :: .long x :: S)) Q := by
  subst hp; exact one (fun T L X _ t => Jvm.Free.XT.lxor X.here K.1 rfl (hb K.2.2.2.1 hd) rfl) q
theorem lshl (K : Cx Z own nm bytes ml ret p s m meth c) {x : Int64} {y : Int32} (hd : decode bytes pc = .ok (.lshl, 1)) (hp : pc + 1 = pc') (q : GoE En p l e R s m args below meth c n0 h ce sl (mkF m pc' Ls (.long (x <<< (y.toInt64 &&& 63)) :: S)) Q) : GoE En p l e R s m args below meth c n0 h ce sl (mkF m pc Ls (.int y :: .long x :: S)) Q := by
  subst hp; exact one (fun T L X _ t => Jvm.Free.XT.lshl X.here K.1 rfl (hb K.2.2.2.1 hd) rfl) q
theorem lshr (K : Cx Z own nm bytes ml ret p s m meth c) {x : Int64} {y : Int32} (hd : decode bytes pc = .ok (.lshr, 1)) (hp : pc + 1 = pc') (q : GoE En p l e R s m args below meth c n0 h ce sl (mkF m pc' Ls (.long (x >>> (y.toInt64 &&& 63)) :: S)) Q) : GoE En p l e R s m args below meth c n0 h ce sl (mkF m pc Ls (.int y :: .long x :: S)) Q := by
  subst hp; exact one (fun T L X _ t => Jvm.Free.XT.lshr X.here K.1 rfl (hb K.2.2.2.1 hd) rfl) q
theorem lushr (K : Cx Z own nm bytes ml ret p s m meth c) {x : Int64} {y : Int32} (hd : decode bytes pc = .ok (.lushr, 1)) (hp : pc + 1 = pc') (q : GoE En p l e R s m args below meth c n0 h ce sl (mkF m pc' Ls (.long (XT.ushrL x y) :: S)) Q) : GoE En p l e R s m args below meth c n0 h ce sl (mkF m pc Ls (.int y :: .long x :: S)) Q := by
  subst hp; exact one (fun T L X _ t => Jvm.Free.XT.lushr X.here K.1 rfl (hb K.2.2.2.1 hd) rfl) q
theorem ldiv (K : Cx Z own nm bytes ml ret p s m meth c) {x y : Int64} (hd : decode bytes pc = .ok (.ldiv, 1)) (hy : y ≠ 0) (hp : pc + 1 = pc') (q : GoE En p l e R s m args below meth c n0 h ce sl (mkF m pc' Ls (.long (x / y) :: S)) Q) : GoE En p l e R s m args below meth c n0 h ce sl (mkF m pc Ls (.long y :: .long x :: S)) Q := by
  subst hp; exact one (fun T L X _ t => Jvm.Free.XT.ldiv X.here K.1 rfl (hb K.2.2.2.1 hd) rfl hy) q
theorem lrem (K : Cx Z own nm bytes ml ret p s m meth c) {x y : Int64} (hd : decode bytes pc = .ok (.lrem, 1)) (hy : y ≠ 0) (hp : pc + 1 = pc') (q : GoE En p l e R s m args below meth c n0 h ce sl (mkF m pc' Ls (.long (x % y) :: S)) Q) : GoE En p l e R s m args below meth c n0 h ce sl (mkF m pc Ls (.long y :: .long x :: S)) Q := by
  subst hp; rw [← lrem_mod] at q; exact one (fun T L X _ t => Jvm.Free.XT.lrem X.here K.1 rfl (hb K.2.2.2.1 hd) rfl hy) q
theorem lcmp (K : Cx Z own nm bytes ml ret p s m meth c) {x y : Int64} (hd : decode bytes pc = .ok (.lcmp, 1)) (hp : pc + 1 = pc') (q : GoE En p l e R s m args below meth c n0 h ce sl (mkF m pc' Ls (.int (XT.cmpL x y) :: S)) Q) : GoE En p l e R s m args below meth c n0 h ce sl (mkF m pc Ls (.long y :: .long x :: S)) Q := by
  subst hp; exact one (fun T L X _ t => Jvm.Free.XT.lcmp X.here K.1 rfl (hb K.2.2.2.1 hd) rfl) q
theorem i2l (K : Cx Z own nm bytes ml ret p s m meth c) {x : Int32} (hd : decode bytes pc = .ok (.i2l, 1)) (hp : pc + 1 = pc') (q : GoE En p l e R s m args below meth c n0 h ce sl (mkF m pc' Ls (.long x.toInt64 :: S)) Q) : GoE En p l e R s m args below meth c n0 h ce sl (mkF m pc Ls (.int x :: S)) Q := by
  subst hp; exact one (fun T L X _ t => Jvm.Free.XT.i2l X.here K.1 rfl (hb K.2.2.2.1 hd) rfl) q
theorem l2i (K : Cx Z own nm bytes ml ret p s m meth c) {x : Int64} (hd : decode bytes pc = .ok (.l2i, 1)) (hp : pc + 1 = pc') (q : GoE En p l e R s m args below meth c n0 h ce sl (mkF m pc' Ls (.int x.toInt32 :: S)) Q) : GoE En p l e R s m args below meth c n0 h ce sl (mkF m pc Ls (.long x :: S)) Q := by
  subst hp; exact one (fun T L X _ t => Jvm.Free.XT.l2i X.here K.1 rfl (hb K.2.2.2.1 hd) rfl) q
theorem i2c (K : Cx Z own nm bytes ml ret p s m meth c) {x : Int32} (hd : decode bytes pc = .ok (.i2c, 1)) (hp : pc + 1 = pc') (q : GoE En p l e R s m args below meth c n0 h ce sl (mkF m pc' Ls (.int x.toUInt32.toUInt16.toUInt32.toInt32 :: S)) Q) : GoE En p l e R s m args below meth c n0 h ce sl (mkF m pc Ls (.int x :: S)) Q := by
  subst hp; exact one (fun T L X _ t => Jvm.Free.XT.i2c X.here K.1 rfl (hb K.2.2.2.1 hd) rfl) q
theorem i2b (K : Cx Z own nm bytes ml ret p s m meth c) {x : Int32} (hd : decode bytes pc = .ok (.i2b, 1)) (hp : pc + 1 = pc') (q : GoE En p l e R s m args below meth c n0 h ce sl (mkF m pc' Ls (.int x.toInt8.toInt32 :: S)) Q) : GoE En p l e R s m args below meth c n0 h ce sl (mkF m pc Ls (.int x :: S)) Q := by
  subst hp; exact one (fun T L X _ t => Jvm.Free.XT.i2b X.here K.1 rfl (hb K.2.2.2.1 hd) rfl) q
theorem i2d (K : Cx Z own nm bytes ml ret p s m meth c) {x : Int32} (hd : decode bytes pc = .ok (.i2d, 1)) (hp : pc + 1 = pc') (q : GoE En p l e R s m args below meth c n0 h ce sl (mkF m pc' Ls (.double (FP.i2d x) :: S)) Q) : GoE En p l e R s m args below meth c n0 h ce sl (mkF m pc Ls (.int x :: S)) Q := by
  subst hp; exact one (fun T L X _ t => Jvm.Free.XS.i2dS X.here K.1 rfl (hb K.2.2.2.1 hd) rfl rfl) q
theorem l2d (K : Cx Z own nm bytes ml ret p s m meth c) {x : Int64} (hd : decode bytes pc = .ok (.l2d, 1)) (hp : pc + 1 = pc') (q : GoE En p l e R s m args below meth c n0 h ce sl (mkF m pc' Ls (.double (FP.l2d x) :: S)) Q) : GoE En p l e R s m args below meth c n0 h ce sl (mkF m pc Ls (.long x :: S)) Q := by
  subst hp; exact one (fun T L X _ t => Jvm.Free.XS.l2dS X.here K.1 rfl (hb K.2.2.2.1 hd) rfl rfl) q
theorem d2l (K : Cx Z own nm bytes ml ret p s m meth c) {x : UInt64} (hd : decode bytes pc = .ok (.d2l, 1)) (hp : pc + 1 = pc') (q : GoE En p l e R s m args below meth c n0 h ce sl (mkF m pc' Ls (.long (FP.d2l x) :: S)) Q) : GoE En p l e R s m args below meth c n0 h ce sl (mkF m pc Ls (.double x :: S)) Q := by
  subst hp; exact one (fun T L X _ t => Jvm.Free.XS.d2lS X.here K.1 rfl (hb K.2.2.2.1 hd) rfl rfl) q
theorem d2i (K : Cx Z own nm bytes ml ret p s m meth c) {x : UInt64} (hd : decode bytes pc = .ok (.d2i, 1)) (hp : pc + 1 = pc') (q : GoE En p l e R s m args below meth c n0 h ce sl (mkF m pc' Ls (.int (FP.d2i x) :: S)) Q) : GoE En p l e R s m args below meth c n0 h ce sl (mkF m pc Ls (.double x :: S)) Q := by
  subst hp; exact one (fun T L X _ t => Jvm.Free.XS.d2iS X.here K.1 rfl (hb K.2.2.2.1 hd) rfl rfl) q
theorem dadd (K : Cx Z own nm bytes ml ret p s m meth c) {x y : UInt64} (hd : decode bytes pc = .ok (.dadd, 1)) (hn : Jvm.Free.Fl.NoNaN64 (FP.dadd x y)) (hp : pc + 1 = pc') (q : GoE En p l e R s m args below meth c n0 h ce sl (mkF m pc' Ls (.double (FP.dadd x y) :: S)) Q) : GoE En p l e R s m args below meth c n0 h ce sl (mkF m pc Ls (.double y :: .double x :: S)) Q := by
  subst hp; exact one (fun T L X _ t => Jvm.Free.XS.daddS X.here K.1 rfl (hb K.2.2.2.1 hd) rfl hn rfl) q
theorem dsub (K : Cx Z own nm bytes ml ret p s m meth c) {x y : UInt64} (hd : decode bytes pc = .ok (.dsub, 1)) (hn : Jvm.Free.Fl.NoNaN64 (FP.dsub x y)) (hp : pc + 1 = pc') (q : GoE En p l e R s m args below meth c n0 h ce sl (mkF m pc' Ls (.double (FP.dsub x y) :: S)) Q) : GoE En p l e R s m args below meth c n0 h ce sl (mkF m pc Ls (.double y :: .double x :: S)) Q := by
  subst hp; exact one (fun T L X _ t => Jvm.Free.XS.dsubS X.here K.1 rfl (hb K.2.2.2.1 hd) rfl hn rfl) q
theorem dmul (K : Cx Z own nm bytes ml ret p s m meth c) {x y : UInt64} (hd : decode bytes pc = .ok (.dmul, 1)) (hn : Jvm.Free.Fl.NoNaN64 (FP.dmul x y)) (hp : pc + 1 = pc') (q : GoE En p l e R s m args below meth c n0 h ce sl (mkF m pc' Ls (.double (FP.dmul x y) :: S)) Q) : GoE En p l e R s m args below meth c n0 h ce sl (mkF m pc Ls (.double y :: .double x :: S)) Q := by
  subst hp; exact one (fun T L X _ t => Jvm.Free.XS.dmulS X.here K.1 rfl (hb K.2.2.2.1 hd) rfl hn rfl) q
theorem ddiv (K : Cx Z own nm bytes ml ret p s m meth c) {x y : UInt64} (hd : decode bytes pc = .ok (.ddiv, 1)) (hn : Jvm.Free.Fl.NoNaN64 (FP.ddiv x y)) (hp : pc + 1 = pc') (q : GoE En p l e R s m args below meth c n0 h ce sl (mkF m pc' Ls (.double (FP.ddiv x y) :: S)) Q) : GoE En p l e R s m args below meth c n0 h ce sl (mkF m pc Ls (.double y :: .double x :: S)) Q := by
  subst hp; exact one (fun T L X _ t => Jvm.Free.XS.ddivS X.here K.1 rfl (hb K.2.2.2.1 hd) rfl hn rfl) q
theorem dcmp (K : Cx Z own nm bytes ml ret p s m meth c) {o : CmpOp} {x y : UInt64} (hd : decode bytes pc = .ok (.dcmp o, 1)) (hp : pc + 1 = pc') (q : GoE En p l e R s m args below meth c n0 h ce sl (mkF m pc' Ls (.int (cmpValue (FP.dcmp x y) o) :: S)) Q) : GoE En p l e R s m args below meth c n0 h ce sl (mkF m pc Ls (.double y :: .double x :: S)) Q := by
  subst hp; exact one (fun T L X _ t => Jvm.Free.XS.dcmpS X.here K.1 rfl (hb K.2.2.2.1 hd) rfl rfl) q
theorem dup (K : Cx Z own nm bytes ml ret p s m meth c) {x : Value} (hd : decode bytes pc = .ok (.dup, 1)) (hc : x.category = 1) (hp : pc + 1 = pc') (q : GoE En p l e R s m args below meth c n0 h ce sl (mkF m pc' Ls (x :: x :: S)) Q) : GoE En p l e R s m args below meth c n0 h ce sl (mkF m pc Ls (x :: S)) Q := by
  subst hp; exact one (fun T L X _ t => Jvm.Free.XS.dup X.here K.1 rfl (hb K.2.2.2.1 hd) rfl hc) q
theorem pop (K : Cx Z own nm bytes ml ret p s m meth c) {x : Value} (hd : decode bytes pc = .ok (.pop, 1)) (hc : x.category = 1) (hp : pc + 1 = pc') (q : GoE En p l e R s m args below meth c n0 h ce sl (mkF m pc' Ls S) Q) : GoE En p l e R s m args below meth c n0 h ce sl (mkF m pc Ls (x :: S)) Q := by
  subst hp; exact one (fun T L X _ t => Jvm.Free.XT.pop X.here K.1 rfl (hb K.2.2.2.1 hd) rfl hc) q
theorem dupX1 (K : Cx Z own nm bytes ml ret p s m meth c) {x y : Value} (hd : decode bytes pc = .ok (.dup_x1, 1)) (hc : x.category = 1) (hc' : y.category = 1) (hp : pc + 1 = pc') (q : GoE En p l e R s m args below meth c n0 h ce sl (mkF m pc' Ls (x :: y :: x :: S)) Q) : GoE En p l e R s m args below meth c n0 h ce sl (mkF m pc Ls (x :: y :: S)) Q := by
  subst hp; exact one (fun T L X _ t => Jvm.Free.XT.dupX1 X.here K.1 rfl (hb K.2.2.2.1 hd) rfl hc hc') q
theorem dup2 (K : Cx Z own nm bytes ml ret p s m meth c) {x y : Value} (hd : decode bytes pc = .ok (.dup2, 1)) (hc : x.category = 1) (hc' : y.category = 1) (hp : pc + 1 = pc') (q : GoE En p l e R s m args below meth c n0 h ce sl (mkF m pc' Ls (x :: y :: x :: y :: S)) Q) : GoE En p l e R s m args below meth c n0 h ce sl (mkF m pc Ls (x :: y :: S)) Q := by
  subst hp; exact one (fun T L X _ t => Jvm.Free.XT.dup2 X.here K.1 rfl (hb K.2.2.2.1 hd) rfl hc hc') q
theorem dup2L (K : Cx Z own nm bytes ml ret p s m meth c) {x : Int64} (hd : decode bytes pc = .ok (.dup2, 1)) (hp : pc + 1 = pc') (q : GoE En p l e R s m args below meth c n0 h ce sl (mkF m pc' Ls (.long x :: .long x :: S)) Q) : GoE En p l e R s m args below meth c n0 h ce sl (mkF m pc Ls (.long x :: S)) Q := by
  subst hp; exact one (fun T L X _ t => Jvm.Free.XT.dup2L X.here K.1 rfl (hb K.2.2.2.1 hd) rfl) q
theorem goto' (K : Cx Z own nm bytes ml ret p s m meth c) {o : Int} (hd : decode bytes pc = .ok (.goto o, 3)) (ho : 0 ≤ (pc : Int) + o) (hp : ((pc : Int) + o).toNat = pc') (q : GoE En p l e R s m args below meth c n0 h ce sl (mkF m pc' Ls S) Q) : GoE En p l e R s m args below meth c n0 h ce sl (mkF m pc Ls S) Q :=
  one (fun T L X _ t => Jvm.Free.XS.goto X.here K.1 rfl rfl (hb K.2.2.2.1 hd) ho hp) q
theorem ifY (K : Cx Z own nm bytes ml ret p s m meth c) {cd : ClassFile.Cond} {o : Int} {x : Int32} (hd : decode bytes pc = .ok (.ifCond cd o, 3)) (hc : ifCond.holds cd x = true) (ho : 0 ≤ (pc : Int) + o) (hp : ((pc : Int) + o).toNat = pc') (q : GoE En p l e R s m args below meth c n0 h ce sl (mkF m pc' Ls S) Q) : GoE En p l e R s m args below meth c n0 h ce sl (mkF m pc Ls (.int x :: S)) Q :=
  one (fun T L X _ t => Jvm.Free.XS.ifYes X.here K.1 rfl rfl (hb K.2.2.2.1 hd) rfl hc ho hp) q
theorem ifN (K : Cx Z own nm bytes ml ret p s m meth c) {cd : ClassFile.Cond} {o : Int} {x : Int32} (hd : decode bytes pc = .ok (.ifCond cd o, 3)) (hc : ifCond.holds cd x = false) (hp : pc + 3 = pc') (q : GoE En p l e R s m args below meth c n0 h ce sl (mkF m pc' Ls S) Q) : GoE En p l e R s m args below meth c n0 h ce sl (mkF m pc Ls (.int x :: S)) Q := by
  subst hp; exact one (fun T L X _ t => Jvm.Free.XS.ifNo X.here K.1 rfl (hb K.2.2.2.1 hd) rfl hc) q
theorem icY (K : Cx Z own nm bytes ml ret p s m meth c) {cd : ClassFile.Cond} {o : Int} {x y : Int32} (hd : decode bytes pc = .ok (.if_icmp cd o, 3)) (hc : if_icmp.holds cd x y = true) (ho : 0 ≤ (pc : Int) + o) (hp : ((pc : Int) + o).toNat = pc') (q : GoE En p l e R s m args below meth c n0 h ce sl (mkF m pc' Ls S) Q) : GoE En p l e R s m args below meth c n0 h ce sl (mkF m pc Ls (.int y :: .int x :: S)) Q :=
  one (fun T L X _ t => Jvm.Free.XS.icmpYes X.here K.1 rfl rfl (hb K.2.2.2.1 hd) rfl hc ho hp) q
theorem icN (K : Cx Z own nm bytes ml ret p s m meth c) {cd : ClassFile.Cond} {o : Int} {x y : Int32} (hd : decode bytes pc = .ok (.if_icmp cd o, 3)) (hc : if_icmp.holds cd x y = false) (hp : pc + 3 = pc') (q : GoE En p l e R s m args below meth c n0 h ce sl (mkF m pc' Ls S) Q) : GoE En p l e R s m args below meth c n0 h ce sl (mkF m pc Ls (.int y :: .int x :: S)) Q := by
  subst hp; exact one (fun T L X _ t => Jvm.Free.XS.icmpNo X.here K.1 rfl (hb K.2.2.2.1 hd) rfl hc) q
theorem nullY (K : Cx Z own nm bytes ml ret p s m meth c) {o : Int} (hd : decode bytes pc = .ok (.ifnull o, 3)) (ho : 0 ≤ (pc : Int) + o) (hp : ((pc : Int) + o).toNat = pc') (q : GoE En p l e R s m args below meth c n0 h ce sl (mkF m pc' Ls S) Q) : GoE En p l e R s m args below meth c n0 h ce sl (mkF m pc Ls (.null :: S)) Q :=
  one (fun T L X _ t => Jvm.Free.XS.ifnullYes X.here K.1 rfl rfl (hb K.2.2.2.1 hd) rfl ho hp) q
theorem nullN (K : Cx Z own nm bytes ml ret p s m meth c) {o : Int} {b : Addr} (hd : decode bytes pc = .ok (.ifnull o, 3)) (hp : pc + 3 = pc') (q : GoE En p l e R s m args below meth c n0 h ce sl (mkF m pc' Ls S) Q) : GoE En p l e R s m args below meth c n0 h ce sl (mkF m pc Ls (.ref b :: S)) Q := by
  subst hp; exact one (fun T L X _ t => Jvm.Free.XS.ifnullNo X.here K.1 rfl (hb K.2.2.2.1 hd) rfl) q
theorem nonnullY (K : Cx Z own nm bytes ml ret p s m meth c) {o : Int} {b : Addr} (hd : decode bytes pc = .ok (.ifnonnull o, 3)) (ho : 0 ≤ (pc : Int) + o) (hp : ((pc : Int) + o).toNat = pc') (q : GoE En p l e R s m args below meth c n0 h ce sl (mkF m pc' Ls S) Q) : GoE En p l e R s m args below meth c n0 h ce sl (mkF m pc Ls (.ref b :: S)) Q :=
  one (fun T L X _ t => Jvm.Free.XT.ifnonnullYes X.here K.1 rfl rfl (hb K.2.2.2.1 hd) rfl ho hp) q
theorem nonnullN (K : Cx Z own nm bytes ml ret p s m meth c) {o : Int} (hd : decode bytes pc = .ok (.ifnonnull o, 3)) (hp : pc + 3 = pc') (q : GoE En p l e R s m args below meth c n0 h ce sl (mkF m pc' Ls S) Q) : GoE En p l e R s m args below meth c n0 h ce sl (mkF m pc Ls (.null :: S)) Q := by
  subst hp; exact one (fun T L X _ t => Jvm.Free.XT.ifnonnullNo X.here K.1 rfl (hb K.2.2.2.1 hd) rfl) q
theorem acY (K : Cx Z own nm bytes ml ret p s m meth c) {cd : ClassFile.ACond} {o : Int} {x y : Value} (hd : decode bytes pc = .ok (.if_acmp cd o, 3)) (hx : x.isRef = true) (hy : y.isRef = true) (hc : XT.acmp cd x y = true) (ho : 0 ≤ (pc : Int) + o) (hp : ((pc : Int) + o).toNat = pc') (q : GoE En p l e R s m args below meth c n0 h ce sl (mkF m pc' Ls S) Q) : GoE En p l e R s m args below meth c n0 h ce sl (mkF m pc Ls (y :: x :: S)) Q :=
  one (fun T L X _ t => Jvm.Free.XT.acmpYes X.here K.1 rfl rfl (hb K.2.2.2.1 hd) rfl hx hy hc ho hp) q
theorem acN (K : Cx Z own nm bytes ml ret p s m meth c) {cd : ClassFile.ACond} {o : Int} {x y : Value} (hd : decode bytes pc = .ok (.if_acmp cd o, 3)) (hx : x.isRef = true) (hy : y.isRef = true) (hc : XT.acmp cd x y = false) (hp : pc + 3 = pc') (q : GoE En p l e R s m args below meth c n0 h ce sl (mkF m pc' Ls S) Q) : GoE En p l e R s m args below meth c n0 h ce sl (mkF m pc Ls (y :: x :: S)) Q := by
  subst hp; exact one (fun T L X _ t => Jvm.Free.XT.acmpNo X.here K.1 rfl (hb K.2.2.2.1 hd) rfl hx hy hc) q
theorem ldcI (K : Cx Z own nm bytes ml ret p s m meth c) {i : Nat} {v : Int32} (w : (Cond.constant own i v).before a0 Z = true) (hd : decode bytes pc = .ok (.ldc i, 2)) (hp : pc + 2 = pc') (q : GoE En p l e R s m args below meth c n0 h ce sl (mkF m pc' Ls (.int v :: S)) Q) : GoE En p l e R s m args below meth c n0 h ce sl (mkF m pc Ls S) Q := by
  subst hp; exact one (fun T L X _ t => X.ldcI K.1 K.2.2.1 (mvT K.2.1 w) rfl (hb K.2.2.2.1 hd)) q
theorem ldcWI (K : Cx Z own nm bytes ml ret p s m meth c) {i : Nat} {v : Int32} (w : (Cond.constant own i v).before a0 Z = true) (hd : decode bytes pc = .ok (.ldc_w i, 3)) (hp : pc + 3 = pc') (q : GoE En p l e R s m args below meth c n0 h ce sl (mkF m pc' Ls (.int v :: S)) Q) : GoE En p l e R s m args below meth c n0 h ce sl (mkF m pc Ls S) Q := by
  subst hp; exact one (fun T L X _ t => X.ldcWI K.1 K.2.2.1 (mvT K.2.1 w) rfl (hb K.2.2.2.1 hd)) q
theorem ldc2J (K : Cx Z own nm bytes ml ret p s m meth c) {i : Nat} {v : Int64} (w : (Cond.constantLong own i v).before a0 Z = true) (hd : decode bytes pc = .ok (.ldc2_w i, 3)) (hp : pc + 3 = pc') (q : GoE En p l e R s m args below meth c n0 h ce sl (mkF m pc' Ls (.long v :: S)) Q) : GoE En p l e R s m args below meth c n0 h ce sl (mkF m pc Ls S) Q := by
  subst hp; exact one (fun T L X _ t => X.ldc2J K.1 K.2.2.1 (mvT K.2.1 w) rfl (hb K.2.2.2.1 hd)) q
theorem ldc2D (K : Cx Z own nm bytes ml ret p s m meth c) {i : Nat} {v : UInt64} (w : (Cond.constantDouble own i v).before a0 Z = true) (hd : decode bytes pc = .ok (.ldc2_w i, 3)) (hp : pc + 3 = pc') (q : GoE En p l e R s m args below meth c n0 h ce sl (mkF m pc' Ls (.double v :: S)) Q) : GoE En p l e R s m args below meth c n0 h ce sl (mkF m pc Ls S) Q := by
  subst hp; exact one (fun T L X _ t => X.ldc2DoubleC K.1 K.2.2.1 (mvT (args := args) K.2.1 w) (g := mkF m pc Ls S) rfl (hb K.2.2.2.1 hd) t) q
theorem getf (K : Cx Z own nm bytes ml ret p s m meth c) {i : Nat} {R0 O n d : String} {a : Addr} {v : Value} (w : (Cond.fieldLink own i R0 n d).before a0 Z = true) (via : Via Z R0 O n d) (F : Fld Z h a O n d v) (hd : decode bytes pc = .ok (.getfield i, 3)) (hp : pc + 3 = pc') (q : GoE En p l e R s m args below meth c n0 h ce sl (mkF m pc' Ls (v :: S)) Q) : GoE En p l e R s m args below meth c n0 h ce sl (mkF m pc Ls (.ref a :: S)) Q := by
  subst hp; exact oneT (fun T L X eT => getF X K.1 K.2.1 K.2.2.1 (host := "") (Or.inl w) via eT F rfl rfl (hb K.2.2.2.1 hd)) q
theorem getfN (K : Cx Z own nm bytes ml ret p s m meth c) {i : Nat} {R0 O n d host : String} {a : Addr} {v : Value} (w : (Cond.fieldLinkNest own i R0 n d host).before a0 Z = true) (via : Via Z R0 O n d) (F : Fld Z h a O n d v) (hd : decode bytes pc = .ok (.getfield i, 3)) (hp : pc + 3 = pc') (q : GoE En p l e R s m args below meth c n0 h ce sl (mkF m pc' Ls (v :: S)) Q) : GoE En p l e R s m args below meth c n0 h ce sl (mkF m pc Ls (.ref a :: S)) Q := by
  subst hp; exact oneT (fun T L X eT => getF X K.1 K.2.1 K.2.2.1 (Or.inr w) via eT F rfl rfl (hb K.2.2.2.1 hd)) q
theorem getfR (K : Cx Z own nm bytes ml ret p s m meth c) {i : Nat} {O n d : String} {a : Addr} {v : Value} (w : (Cond.fieldRef own i O n d).before a0 Z = true) (F : Fld Z h a O n d v) (hd : decode bytes pc = .ok (.getfield i, 3)) (hp : pc + 3 = pc') (q : GoE En p l e R s m args below meth c n0 h ce sl (mkF m pc' Ls (v :: S)) Q) : GoE En p l e R s m args below meth c n0 h ce sl (mkF m pc Ls (.ref a :: S)) Q := by
  subst hp
  refine one (fun T L X eT t k => ?_) q
  have hT : Z.Warmed39 T.vm := wtrans K.2.1 X.warmed
  obtain ⟨c1, k1, i1, f1, g1, g2⟩ := Cond.fieldRef_spec (s := Z.setVm T.vm) (cur := m.cls) (by show T.vm.findClass own = _; rw [X.warmed.alike.findClass]; exact K.2.2.1) (Cond.fieldRef_warmed39 hT w)
  obtain ⟨cell, cf, kf, i2, f2, h1, h2, h3, h4, -, -, h7⟩ := F
  obtain ⟨k', hi, -⟩ := State.fieldFound?_setVm (s := Z) hT.alike h2
  cases g1.symm.trans hi
  exact (X.getfieldR K.1 (g := mkF m pc Ls (.ref a :: S)) rfl g2 h3 rfl (by rw [eT]; exact h1) h4 h7 (hb K.2.2.2.1 hd) (Steps.refl _)).trans k
theorem gets (K : Cx Z own nm bytes ml ret p s m meth c) {i : Nat} {R0 O n d : String} {v : Value} (w : (Cond.fieldLink own i R0 n d).before a0 Z = true) (via : Via Z R0 O n d) (F : Sta Z h O n d v) (hd : decode bytes pc = .ok (.getstatic i, 3)) (hp : pc + 3 = pc') (q : GoE En p l e R s m args below meth c n0 h ce sl (mkF m pc' Ls (v :: S)) Q) : GoE En p l e R s m args below meth c n0 h ce sl (mkF m pc Ls S) Q := by
  subst hp; exact oneT (fun T L X eT => getS X K.1 K.2.1 K.2.2.1 (host := "") w via eT F rfl (hb K.2.2.2.1 hd)) q
theorem putf (K : Cx Z own nm bytes ml ret p s m meth c) {i kk : Nat} {R0 O n d C : String} {ty : FieldType} {a : Addr} {v old : Value} (w : (Cond.fieldLink own i R0 n d).before a0 Z = true) (via : Via Z R0 O n d) (F : Fld Z h a O n d old) (E : Exa Z h a C) (L : (Cond.lays C O n d).before a0 Z = true ∨ ((Cond.laysFinal C O n d).before a0 Z = true ∧ own = O ∧ nm = "<init>")) (wi : (Cond.instantiable C kk).before a0 Z = true) (hty : parseFieldDescriptor d = some ty) (hn : narrow ty v = v) (hf : fits ty v = true) (ga : n0 ≤ a) (hd : decode bytes pc = .ok (.putfield i, 3)) (hp : pc + 3 = pc') (q : ∀ h', Wr h h' a (Jvm.RoadKit.slotOf Z O n d) v → GoE En p l e R s m args below meth c n0 h' ce sl (mkF m pc' Ls S) Q) : GoE En p l e R s m args below meth c n0 h ce sl (mkF m pc Ls (v :: .ref a :: S)) Q := by
  subst hp
  intro T L0 X N eT
  obtain ⟨T', h', X', e', W, st⟩ := putF X K.1 K.2.1 K.2.2.1 (host := "") (Or.inl w) via eT F E (L.imp id fun ⟨a, b, c⟩ => ⟨a, b, K.2.2.2.2.2.2.2.trans c⟩) wi hty hn hf (g := mkF m pc Ls (v :: .ref a :: S)) rfl rfl (hb K.2.2.2.1 hd)
  obtain ⟨s₂, u, L', a1, r⟩ := q h' W T' _ X' (Fr.snoc X' N ga) e'
  exact ⟨s₂, u, L', st _ a1, r⟩
theorem newObj (K : Cx Z own nm bytes ml ret p s m meth c) {i n : Nat} {C : String} (w : (Cond.classLink own i C).before a0 Z = true) (wi : (Cond.instantiable C n).before a0 Z = true) (wz : (Cond.initialized C).before a0 Z = true) (hd : decode bytes pc = .ok (.new i, 3)) (hc : ce + 1 ≤ R.cells) (hl : sl + n ≤ R.slots) (hp : pc + 3 = pc') (q : ∀ h' x, x = h.size → Ext h h' → Exa Z h' x C → (∀ {O nm d : String} {ty : FieldType}, Laid Z a0 C O nm d → parseFieldDescriptor d = some ty → Fld Z h' x O nm d (defaultValue ty)) → GoE En p l e R s m args below meth c n0 h' (ce + 1) (sl + n) (mkF m pc' Ls (.ref x :: S)) Q) : GoE En p l e R s m args below meth c n0 h ce sl (mkF m pc Ls S) Q := by
  subst hp
  intro T L0 X N eT
  obtain ⟨T', h', X', e', E, A, D, -, st⟩ := newO X K.1 K.2.1 K.2.2.1 w wi wz eT (g := mkF m pc Ls S) rfl (hb K.2.2.2.1 hd) hc hl
  obtain ⟨s₂, u, L', a1, r⟩ := q h' h.size rfl E A D T' _ X' N e'
  exact ⟨s₂, u, L', st _ a1, r⟩
theorem initObj (K : Cx Z own nm bytes ml ret p s m meth c) {i : Nat} {a : Addr} (w1 : (Cond.methodLink own i Lib.objectInit).before a0 Z = true) (w2 : (Cond.instanceMethod Lib.objectInit).before a0 Z = true) (w3 : (Cond.code Lib.objectInit ⟨#[0xb1]⟩ 1 none).before a0 Z = true) (hd : decode bytes pc = .ok (.invokespecial i, 3)) (hz : Ls.size = ml) (hf : 1 ≤ R.frames) (hW : (S.map fun v => v.category).sum + 12 ≤ R.locals) (hp : pc + 3 = pc') (q : GoE En p l e R s m args below meth c n0 h ce sl (mkF m pc' Ls S) Q) : GoE En p l e R s m args below meth c n0 h ce sl (mkF m pc Ls (.ref a :: S)) Q := by
  subst hp; exact oneT (fun T L X eT => initO X K.1 K.2.1 K.2.2.1 w1 w2 w3 eT rfl (hz.trans K.2.2.2.2.1.symm) rfl (hb K.2.2.2.1 hd) hf (W := (S.map fun v => v.category).sum) (by show 2 * 0 + _ ≤ _; omega) hW) q
/-- a private method's own 'selects' -/
theorem priv_sel {s : State} {args : Array Value} {y : MethodName} {kk : Nat} (wi : (Cond.instantiable y.cls kk).before args s = true) (hpriv : s.PrivateAt y) (hinst : (Cond.instanceMethod y).before args s = true) (hy : y.cls ≠ "java/lang/invoke/MethodHandle" ∧ y.cls ≠ "java/lang/invoke/VarHandle") : (Cond.selects y.cls y y).before args s = true := by
  obtain ⟨c2, k2, i1, i2, i3, i4⟩ := Cond.instantiable_spec wi
  exact selects_self_of_private i1 i2 (Bool.or_eq_false_iff.mp i4.1).1 hpriv hinst hy
/-! calls -/
theorem back {W len : Nat} {y : MethodName} {by' : ByteArray} {ml' : Nat} {ret' : Option FieldType} {rm : Room} {as' : Array Value} {Q' : Option Value → Heap → Prop} (K : Cx Z own nm bytes ml ret p s m meth c) (C : Ctr l Z y by' ml' ret' [] rm n0 as' h Q') (wc : (Cond.code y by' ml' ret').before a0 Z = true) (wz : (Cond.initialized y.cls).before a0 Z = true) (hf : rm.frames + 1 ≤ R.frames) (hl : W + (ml' + 11) + rm.locals ≤ R.locals) :
    Back l R p e below s args y len W (fun A a => a = as' ∧ A.U.heap = h ∧ A.cells + rm.cells ≤ R.cells ∧ A.slots + rm.slots ≤ R.slots) (fun A _ v B => ∃ L, (Q' v B.U.heap ∧ Fr n0 L) ∧ B.locs = A.locs ++ L ∧ B.cells = A.cells + rm.cells ∧ B.slots = A.slots + rm.slots) :=
  backOf (Q := fun v h L => Q' v h ∧ Fr n0 L) C K.2.1 wc wz hf hl
theorem callStatic (K : Cx Z own nm bytes ml ret p s m meth c) {i : Nat} {y : MethodName} {by' : ByteArray} {ml' : Nat} {ret' : Option FieldType} {rm : Room} {Q' : Option Value → Heap → Prop}  {argsL : List Value} (w1 : (Cond.methodLink own i y).before a0 Z = true) (w2 : (Cond.static y).before a0 Z = true) (wz : (Cond.initialized y.cls).before a0 Z = true) (wc : (Cond.code y by' ml' ret').before a0 Z = true) (hy : y.cls ≠ "java/lang/invoke/MethodHandle" ∧ y.cls ≠ "java/lang/invoke/VarHandle") (Cc : Ctr l Z y by' ml' ret' [] rm n0 argsL.toArray h Q') (hlen : ∀ sig, parseMethodDescriptor y.desc = some sig → argsL.length = sig.parameters.length) (hd : decode bytes pc = .ok (.invokestatic i, 3)) (hz : Ls.size = ml) (hf : rm.frames + 1 ≤ R.frames) (hW : (S.map fun v => v.category).sum + (ml' + 11) + rm.locals ≤ R.locals) (hc : ce + rm.cells ≤ R.cells) (hsl : sl + rm.slots ≤ R.slots) {st : List Value} (hst : st = (argsL.reverse ++ S)) (hp : pc + 3 = pc') (q : ∀ v h', Q' v h' → GoE En p l e R s m args below meth c n0 h' (ce + rm.cells) (sl + rm.slots) (mkF m pc' Ls (v.toList ++ S)) Q) : GoE En p l e R s m args below meth c n0 h ce sl (mkF m pc Ls st) Q := by
  subst hp hst
  intro T L0 X N eT
  obtain ⟨v, _, ⟨T', L1, k1, n1⟩, -, X', ⟨Lc, hQ, l', y', z'⟩, st'⟩ := Jvm.LawKit.callS X K.1 K.2.2.1 (mvT K.2.1 w1) (mvT K.2.1 w2) (mvT K.2.1 wz) (mvT K.2.1 wc) hy (back (W := (S.map fun v => v.category).sum) K Cc wc wz hf hW) (g := mkF m pc Ls (argsL.reverse ++ S)) rfl (hz.trans K.2.2.2.2.1.symm) (argsL := argsL) (rest := S) hlen rfl (by show 2 * 0 + _ ≤ _; omega) (hb K.2.2.2.1 hd) (fun _ _ => ⟨rfl, eT, hc, hsl⟩)
  dsimp only [Pt.U, Pt.locs, Pt.cells, Pt.slots] at X' l' y' z' st'
  subst l' y' z'
  obtain ⟨s₂, u, L', a1, r⟩ := q v _ hQ.1 T' _ X' (Fr.app N hQ.2) rfl
  exact ⟨s₂, u, L', st' _ a1, r⟩
theorem callInit (K : Cx Z own nm bytes ml ret p s m meth c) {i : Nat} {y : MethodName} {by' : ByteArray} {ml' : Nat} {ret' : Option FieldType} {rm : Room} {Q' : Option Value → Heap → Prop} {b : Addr} {argsL : List Value} (hy1 : y.name = "<init>") (w1 : (Cond.methodLink own i y).before a0 Z = true) (w2 : (Cond.instanceMethod y).before a0 Z = true) (wz : (Cond.initialized y.cls).before a0 Z = true) (wc : (Cond.code y by' ml' none).before a0 Z = true) (hr : ret' = none) (hy : y.cls ≠ "java/lang/invoke/MethodHandle" ∧ y.cls ≠ "java/lang/invoke/VarHandle") (Cc : Ctr l Z y by' ml' ret' [] rm n0 (.ref b :: argsL).toArray h Q') (hlen : ∀ sig, parseMethodDescriptor y.desc = some sig → argsL.length = sig.parameters.length) (hd : decode bytes pc = .ok (.invokespecial i, 3)) (hz : Ls.size = ml) (hf : rm.frames + 1 ≤ R.frames) (hW : (S.map fun v => v.category).sum + (ml' + 11) + rm.locals ≤ R.locals) (hc : ce + rm.cells ≤ R.cells) (hsl : sl + rm.slots ≤ R.slots) {st : List Value} (hst : st = (argsL.reverse ++ .ref b :: S)) (hp : pc + 3 = pc') (q : ∀ v h', Q' v h' → GoE En p l e R s m args below meth c n0 h' (ce + rm.cells) (sl + rm.slots) (mkF m pc' Ls (v.toList ++ S)) Q) : GoE En p l e R s m args below meth c n0 h ce sl (mkF m pc Ls st) Q := by
  subst hp hst
  intro T L0 X N eT
  subst hr
  obtain ⟨v, _, ⟨T', L1, k1, n1⟩, -, X', ⟨Lc, hQ, l', y', z'⟩, st'⟩ := X.specialBack K.1 hy1 K.2.2.1 (mvT K.2.1 w1) (mvT K.2.1 w2) (mvT K.2.1 wc) hy (back (W := (S.map fun v => v.category).sum) K Cc wc wz hf hW) (g := mkF m pc Ls (argsL.reverse ++ .ref b :: S)) rfl (hz.trans K.2.2.2.2.1.symm) (Steps.refl _) (a := b) (argsL := argsL) (rest := S) hlen rfl (by show 2 * 0 + _ ≤ _; omega) (hb K.2.2.2.1 hd) (fun _ _ => ⟨rfl, eT, hc, hsl⟩)
  dsimp only [Pt.U, Pt.locs, Pt.cells, Pt.slots] at X' l' y' z' st'
  subst l' y' z'
  obtain ⟨s₂, u, L', a1, r⟩ := q v _ hQ.1 T' _ X' (Fr.app N hQ.2) rfl
  exact ⟨s₂, u, L', st'.trans a1, r⟩
theorem callInitNest (K : Cx Z own nm bytes ml ret p s m meth c) {i : Nat} {y : MethodName} {by' : ByteArray} {ml' : Nat} {ret' : Option FieldType} {rm : Room} {Q' : Option Value → Heap → Prop} {b : Addr} {argsL : List Value} {host : String} (hy1 : y.name = "<init>") (w1 : (Cond.methodLinkNest own i y host).before a0 Z = true) (w2 : (Cond.instanceMethod y).before a0 Z = true) (wz : (Cond.initialized y.cls).before a0 Z = true) (wc : (Cond.code y by' ml' none).before a0 Z = true) (hr : ret' = none) (hy : y.cls ≠ "java/lang/invoke/MethodHandle" ∧ y.cls ≠ "java/lang/invoke/VarHandle") (Cc : Ctr l Z y by' ml' ret' [] rm n0 (.ref b :: argsL).toArray h Q') (hlen : ∀ sig, parseMethodDescriptor y.desc = some sig → argsL.length = sig.parameters.length) (hd : decode bytes pc = .ok (.invokespecial i, 3)) (hz : Ls.size = ml) (hf : rm.frames + 1 ≤ R.frames) (hW : (S.map fun v => v.category).sum + (ml' + 11) + rm.locals ≤ R.locals) (hc : ce + rm.cells ≤ R.cells) (hsl : sl + rm.slots ≤ R.slots) {st : List Value} (hst : st = (argsL.reverse ++ .ref b :: S)) (hp : pc + 3 = pc') (q : ∀ v h', Q' v h' → GoE En p l e R s m args below meth c n0 h' (ce + rm.cells) (sl + rm.slots) (mkF m pc' Ls (v.toList ++ S)) Q) : GoE En p l e R s m args below meth c n0 h ce sl (mkF m pc Ls st) Q := by
  subst hp hst
  intro T L0 X N eT
  subst hr
  obtain ⟨v, _, ⟨T', L1, k1, n1⟩, -, X', ⟨Lc, hQ, l', y', z'⟩, st'⟩ := X.specialBackNest K.1 hy1 K.2.2.1 (Cond.methodLinkNest_wide K.2.1 w1 :) (mvT K.2.1 w2) (mvT K.2.1 wc) hy (back (W := (S.map fun v => v.category).sum) K Cc wc wz hf hW) (g := mkF m pc Ls (argsL.reverse ++ .ref b :: S)) rfl (hz.trans K.2.2.2.2.1.symm) (Steps.refl _) (a := b) (argsL := argsL) (rest := S) hlen rfl (by show 2 * 0 + _ ≤ _; omega) (hb K.2.2.2.1 hd) (fun _ _ => ⟨rfl, eT, hc, hsl⟩)
  dsimp only [Pt.U, Pt.locs, Pt.cells, Pt.slots] at X' l' y' z' st'
  subst l' y' z'
  obtain ⟨s₂, u, L', a1, r⟩ := q v _ hQ.1 T' _ X' (Fr.app N hQ.2) rfl
  exact ⟨s₂, u, L', st'.trans a1, r⟩
theorem callVirt (K : Cx Z own nm bytes ml ret p s m meth c) {i : Nat} {y : MethodName} {by' : ByteArray} {ml' : Nat} {ret' : Option FieldType} {rm : Room} {Q' : Option Value → Heap → Prop} {b : Addr} {argsL : List Value} {C : String} (w1 : (Cond.methodLink own i y).before a0 Z = true) (w2 : (Cond.declares y).before a0 Z = true) (w3 : (Cond.selects C y y).before a0 Z = true) (w4 : (Cond.instanceMethod y).before a0 Z = true) (wz : (Cond.initialized y.cls).before a0 Z = true) (wc : (Cond.code y by' ml' ret').before a0 Z = true) (hy : y.cls ≠ "java/lang/invoke/MethodHandle" ∧ y.cls ≠ "java/lang/invoke/VarHandle") (E : Exa Z h b C) (Cc : Ctr l Z y by' ml' ret' [] rm n0 (.ref b :: argsL).toArray h Q') (hlen : ∀ sig, parseMethodDescriptor y.desc = some sig → argsL.length = sig.parameters.length) (hd : decode bytes pc = .ok (.invokevirtual i, 3)) (hz : Ls.size = ml) (hf : rm.frames + 1 ≤ R.frames) (hW : (S.map fun v => v.category).sum + (ml' + 11) + rm.locals ≤ R.locals) (hc : ce + rm.cells ≤ R.cells) (hsl : sl + rm.slots ≤ R.slots) {st : List Value} (hst : st = (argsL.reverse ++ .ref b :: S)) (hp : pc + 3 = pc') (q : ∀ v h', Q' v h' → GoE En p l e R s m args below meth c n0 h' (ce + rm.cells) (sl + rm.slots) (mkF m pc' Ls (v.toList ++ S)) Q) : GoE En p l e R s m args below meth c n0 h ce sl (mkF m pc Ls st) Q := by
  subst hp hst
  intro T L0 X N eT
  obtain ⟨cq, kq, qa, qb, qc⟩ := isOf K.2.1 eT E
  obtain ⟨v, _, ⟨T', L1, k1, n1⟩, -, X', ⟨Lc, hQ, l', y', z'⟩, st'⟩ := X.virtualBack K.1 (y := y) (z := y) K.2.2.1 (mvT K.2.1 w1) (mvT K.2.1 w2) (notFace_of_selects (args := #[]) (mvT K.2.1 w3)) (mvT K.2.1 w3) (mvT K.2.1 w4) hy (back (W := (S.map fun v => v.category).sum) K Cc wc wz hf hW) qa qc (g := mkF m pc Ls (argsL.reverse ++ .ref b :: S)) rfl (hz.trans K.2.2.2.2.1.symm) (Steps.refl _) (argsL := argsL) (rest := S) hlen rfl (by show 2 * 0 + _ ≤ _; omega) (hb K.2.2.2.1 hd) (fun _ _ => ⟨rfl, eT, hc, hsl⟩)
  dsimp only [Pt.U, Pt.locs, Pt.cells, Pt.slots] at X' l' y' z' st'
  subst l' y' z'
  obtain ⟨s₂, u, L', a1, r⟩ := q v _ hQ.1 T' _ X' (Fr.app N hQ.2) rfl
  exact ⟨s₂, u, L', st'.trans a1, r⟩
theorem callFace (K : Cx Z own nm bytes ml ret p s m meth c) {i cnt : Nat} {y : MethodName} {by' : ByteArray} {ml' : Nat} {ret' : Option FieldType} {rm : Room} {Q' : Option Value → Heap → Prop} {b : Addr} {argsL : List Value} {z : MethodName} {C : String} (w1 : (Cond.methodLink own i y).before a0 Z = true) (w2 : (Cond.declares y).before a0 Z = true) (w5 : (Cond.interfaceMethod y.cls y.cls y.name y.desc).before a0 Z = true) (k5 : ((Cond.interfaceMethod y.cls y.cls y.name y.desc).onTables && (Cond.interfaceMethod y.cls y.cls y.name y.desc).keepsFace) = true) (w3 : (Cond.selects C y z).before a0 Z = true) (w4 : (Cond.instanceMethod z).before a0 Z = true) (w6 : (Cond.publicMethod z).before a0 Z = true) (w7 : (Cond.unhidden C y.name y.desc).before a0 Z = true) (w8 : (Cond.castable C y.cls).before a0 Z = true) (wz : (Cond.initialized z.cls).before a0 Z = true) (wc : (Cond.code z by' ml' ret').before a0 Z = true) (hy : y.cls ≠ "java/lang/invoke/MethodHandle" ∧ y.cls ≠ "java/lang/invoke/VarHandle") (E : Exa Z h b C) (Cc : Ctr l Z z by' ml' ret' [] rm n0 (.ref b :: argsL).toArray h Q') (hlen : ∀ sig, parseMethodDescriptor y.desc = some sig → argsL.length = sig.parameters.length) (hd : decode bytes pc = .ok (.invokeinterface i cnt, 5)) (hz : Ls.size = ml) (hf : rm.frames + 1 ≤ R.frames) (hW : (S.map fun v => v.category).sum + (ml' + 11) + rm.locals ≤ R.locals) (hc : ce + rm.cells ≤ R.cells) (hsl : sl + rm.slots ≤ R.slots) {st : List Value} (hst : st = (argsL.reverse ++ .ref b :: S)) (hp : pc + 5 = pc') (q : ∀ v h', Q' v h' → GoE En p l e R s m args below meth c n0 h' (ce + rm.cells) (sl + rm.slots) (mkF m pc' Ls (v.toList ++ S)) Q) : GoE En p l e R s m args below meth c n0 h ce sl (mkF m pc Ls st) Q := by
  subst hp hst
  intro T L0 X N eT
  obtain ⟨cq, kq, qa, qb, qc⟩ := isOf K.2.1 eT E
  obtain ⟨v, _, ⟨T', L1, k1, n1⟩, -, X', ⟨Lc, hQ, l', y', z'⟩, st'⟩ := X.interfaceBack K.1 (xi := y) (y := z) K.2.2.1 (mvT K.2.1 w1) (mvT K.2.1 w2) (mvT K.2.1 w5 k5) (mvT K.2.1 w3) (mvT K.2.1 w4) (mvT K.2.1 w6) (mvT K.2.1 w7) (mvT K.2.1 w8) hy (back (W := (S.map fun v => v.category).sum) K Cc wc wz hf hW) qa qb qc (g := mkF m pc Ls (argsL.reverse ++ .ref b :: S)) rfl (hz.trans K.2.2.2.2.1.symm) (Steps.refl _) (argsL := argsL) (rest := S) hlen rfl (by show 2 * 0 + _ ≤ _; omega) (hb K.2.2.2.1 hd) (fun _ _ => ⟨rfl, eT, hc, hsl⟩)
  dsimp only [Pt.U, Pt.locs, Pt.cells, Pt.slots] at X' l' y' z' st'
  subst l' y' z'
  obtain ⟨s₂, u, L', a1, r⟩ := q v _ hQ.1 T' _ X' (Fr.app N hQ.2) rfl
  exact ⟨s₂, u, L', st'.trans a1, r⟩
theorem callPriv (K : Cx Z own nm bytes ml ret p s m meth c) {i : Nat} {y : MethodName} {by' : ByteArray} {ml' : Nat} {ret' : Option FieldType} {rm : Room} {Q' : Option Value → Heap → Prop} {b : Addr} {argsL : List Value} {C : String} {kk : Nat} (w1 : (Cond.methodLink own i y).before a0 Z = true) (w2 : (Cond.instanceMethod y).before a0 Z = true) (w3 : (Cond.privateMethod y).before a0 Z = true) (w5 : (Cond.instantiable y.cls kk).before a0 Z = true) (wz : (Cond.initialized y.cls).before a0 Z = true) (wc : (Cond.code y by' ml' ret').before a0 Z = true) (hy : y.cls ≠ "java/lang/invoke/MethodHandle" ∧ y.cls ≠ "java/lang/invoke/VarHandle") (E : Exa Z h b C) (Cc : Ctr l Z y by' ml' ret' [] rm n0 (.ref b :: argsL).toArray h Q') (hlen : ∀ sig, parseMethodDescriptor y.desc = some sig → argsL.length = sig.parameters.length) (hd : decode bytes pc = .ok (.invokevirtual i, 3)) (hz : Ls.size = ml) (hf : rm.frames + 1 ≤ R.frames) (hW : (S.map fun v => v.category).sum + (ml' + 11) + rm.locals ≤ R.locals) (hc : ce + rm.cells ≤ R.cells) (hsl : sl + rm.slots ≤ R.slots) {st : List Value} (hst : st = (argsL.reverse ++ .ref b :: S)) (hp : pc + 3 = pc') (q : ∀ v h', Q' v h' → GoE En p l e R s m args below meth c n0 h' (ce + rm.cells) (sl + rm.slots) (mkF m pc' Ls (v.toList ++ S)) Q) : GoE En p l e R s m args below meth c n0 h ce sl (mkF m pc Ls st) Q := by
  subst hp hst
  intro T L0 X N eT
  obtain ⟨cell, kc, f1, f2, f3, f4, -⟩ := E
  have hpr : s.PrivateAt y := Cond.privateMethod_at (mvP K.2.1 w3 (args := #[]))
  obtain ⟨v, _, ⟨T', L1, k1, n1⟩, -, X', ⟨Lc, hQ, l', y', z'⟩, st'⟩ := X.privateBack K.1 (y := y) K.2.2.1 (mvT K.2.1 w1) (mvT K.2.1 w2) (priv_sel (mvT K.2.1 w5) hpr (mvT K.2.1 w2) hy) hpr (mvT K.2.1 wc) hy (back (W := (S.map fun v => v.category).sum) K Cc wc wz hf hW) (g := mkF m pc Ls (argsL.reverse ++ .ref b :: S)) rfl (hz.trans K.2.2.2.2.1.symm) (Steps.refl _) (a := b) (by rw [eT]; exact f1) (fun q hq => by rw [hq] at f4; cases f4) (argsL := argsL) (rest := S) hlen rfl (by show 2 * 0 + _ ≤ _; omega) (hb K.2.2.2.1 hd) (fun _ _ => ⟨rfl, eT, hc, hsl⟩)
  dsimp only [Pt.U, Pt.locs, Pt.cells, Pt.slots] at X' l' y' z' st'
  subst l' y' z'
  obtain ⟨s₂, u, L', a1, r⟩ := q v _ hQ.1 T' _ X' (Fr.app N hQ.2) rfl
  exact ⟨s₂, u, L', st'.trans a1, r⟩
theorem retW (K : Cx Z own nm bytes ml ret p s m meth c) {t : FieldType} {w : Value} {i : Instr} (hi : (i = .ireturn ∧ (t = .int ∨ t = .boolean ∨ t = .byte ∨ t = .char ∨ t = .short) ∧ ∃ z, w = .int z) ∨ (i = .lreturn ∧ t = .long ∧ ∃ z, w = .long z) ∨ (i = .dreturn ∧ t = .double ∧ ∃ z, w = .double z) ∨ (i = .freturn ∧ t = .float ∧ ∃ z, w = .float z) ∨ (i = .areturn ∧ t.isReference = true ∧ w.isRef = true)) (hr : ret = some t) (hn : narrow t w = w) (hd : decode bytes pc = .ok (i, 1)) (hc : ce ≤ R.cells) (hsl : sl ≤ R.slots) (q : Q (some w) h) : Go p l e R s m args below meth c n0 h ce sl (mkF m pc Ls (w :: S)) Q := by
  intro T L0 X N eT
  obtain ⟨fs, hl, hrun, hended, hW, hsame⟩ := X.leave (v := some w) (fun q => by rw [K.2.2.2.2.2.1, hr] at q; cases q) K.2.2.2.2.2.2.1
  exact ⟨_, some w, L0, retOut X K.1 (K.2.2.2.2.2.1.trans hr) hn hi (hb K.2.2.2.1 hd) hl, hrun, hended, N, eT ▸ q, ⟨_, rfl⟩, hW, hsame.mono hc hsl⟩
theorem retV (K : Cx Z own nm bytes ml ret p s m meth c) (hr : ret = none) (hd : decode bytes pc = .ok (.return_, 1)) (hc : ce ≤ R.cells) (hsl : sl ≤ R.slots) (q : Q none h) : Go p l e R s m args below meth c n0 h ce sl (mkF m pc Ls []) Q := by
  intro T L0 X N eT
  obtain ⟨fs, hl, hrun, hended, hW, hsame⟩ := X.leave (v := none) (fun _ => rfl) K.2.2.2.2.2.2.1
  exact ⟨_, none, L0, X.returnOut K.1 (K.2.2.2.2.2.1.trans hr) (hb K.2.2.2.1 hd) hl, hrun, hended, N, eT ▸ q, ⟨_, rfl⟩, hW, hsame.mono hc hsl⟩
theorem retI (K : Cx Z own nm bytes ml ret p s m meth c) {z : Int32} (hr : ret = some .int) (hd : decode bytes pc = .ok (.ireturn, 1)) (hc : ce ≤ R.cells) (hsl : sl ≤ R.slots) (q : Q (some (.int z)) h) : Go p l e R s m args below meth c n0 h ce sl (mkF m pc Ls (.int z :: S)) Q := retW K (by exact Or.inl ⟨rfl, Or.inl rfl, _, rfl⟩) hr rfl hd hc hsl q
theorem retL (K : Cx Z own nm bytes ml ret p s m meth c) {z : Int64} (hr : ret = some .long) (hd : decode bytes pc = .ok (.lreturn, 1)) (hc : ce ≤ R.cells) (hsl : sl ≤ R.slots) (q : Q (some (.long z)) h) : Go p l e R s m args below meth c n0 h ce sl (mkF m pc Ls (.long z :: S)) Q := retW K (by exact Or.inr (Or.inl ⟨rfl, rfl, _, rfl⟩)) hr rfl hd hc hsl q
theorem retD (K : Cx Z own nm bytes ml ret p s m meth c) {z : UInt64} (hr : ret = some .double) (hd : decode bytes pc = .ok (.dreturn, 1)) (hc : ce ≤ R.cells) (hsl : sl ≤ R.slots) (q : Q (some (.double z)) h) : Go p l e R s m args below meth c n0 h ce sl (mkF m pc Ls (.double z :: S)) Q := retW K (by exact Or.inr (Or.inr (Or.inl ⟨rfl, rfl, _, rfl⟩))) hr rfl hd hc hsl q
theorem retA (K : Cx Z own nm bytes ml ret p s m meth c) {t : FieldType} {w : Value} (hr : ret = some t) (ht : t.isReference = true) (hw : w.isRef = true) (hd : decode bytes pc = .ok (.areturn, 1)) (hc : ce ≤ R.cells) (hsl : sl ≤ R.slots) (q : Q (some w) h) : Go p l e R s m args below meth c n0 h ce sl (mkF m pc Ls (w :: S)) Q := retW K (Or.inr (Or.inr (Or.inr (Or.inr ⟨rfl, ht, hw⟩)))) hr (by cases t <;> first | rfl | exact absurd ht (by decide)) hd hc hsl q
theorem retB (K : Cx Z own nm bytes ml ret p s m meth c) {t : FieldType} {z : Int32} (hr : ret = some t) (ht : t = .boolean ∨ t = .byte ∨ t = .char ∨ t = .short) (hd : decode bytes pc = .ok (.ireturn, 1)) (hc : ce ≤ R.cells) (hsl : sl ≤ R.slots) (q : Q (some (.int (nar t z))) h) : Go p l e R s m args below meth c n0 h ce sl (mkF m pc Ls (.int z :: S)) Q := by
  intro T L0 X N eT
  obtain ⟨fs, hl, hrun, hended, hW, hsame⟩ := X.leave (v := some (.int (nar t z))) (fun q => by rw [K.2.2.2.2.2.1, hr] at q; cases q) K.2.2.2.2.2.2.1
  exact ⟨_, some (.int (nar t z)), L0, retN X K.1 (t := t) (K.2.2.2.2.2.1.trans hr) ht (hb K.2.2.2.1 hd) hl, hrun, hended, N, eT ▸ q, ⟨_, rfl⟩, hW, hsame.mono hc hsl⟩
end Walk
/-! arrays -/
def Vec (Z : State) (h : Heap) (a : Addr) (ty : FieldType) (xs : List Value) : Prop := ∃ cl : Cell, Arr Z h a cl ty ∧ cl.slots.toList = xs ∧ xs.length < 2147483648
/-- an array of references, with what may lie in it -/
def VecR (Z : State) (h : Heap) (a : Addr) (C : String) (xs : List Value) : Prop := ∃ cl : Cell, Arr Z h a cl (.object C) ∧ cl.slots.toList = xs ∧ xs.length < 2147483648 ∧ Ovr Z cl.cls C
section Vecs
variable {Z : State} {h h' : Heap} {a b : Addr} {ty : FieldType} {xs : List Value} {v : Value} {sl : Nat} {ws : List Addr} {C : String}
theorem Vec.lt (F : Vec Z h a ty xs) : a < h.size := by obtain ⟨c, A, -⟩ := F; exact A.lt
theorem Vec.ext (F : Vec Z h a ty xs) (E : Ext h h') : Vec Z h' a ty xs := by obtain ⟨c, A, r⟩ := F; exact ⟨c, A.ext E, r⟩
theorem Vec.other (F : Vec Z h b ty xs) (W : Wr h h' a sl v) (q : b ≠ a) : Vec Z h' b ty xs := by obtain ⟨c, A, r⟩ := F; exact ⟨c, A.other W q, r⟩
theorem Vec.keep (F : Vec Z h a ty xs) (K : Keep h h' ws) (q : a ∉ ws) : Vec Z h' a ty xs := by obtain ⟨c, A, r⟩ := F; exact ⟨c, ⟨K.2.1 a c A.1 q, A.2⟩, r⟩
theorem Vec.set (F : Vec Z h a ty xs) {i : Nat} (W : Wr h h' a i v) : Vec Z h' a ty (xs.set i v) := by
  obtain ⟨c, A, rfl, r⟩ := F
  exact ⟨_, A.same W, by simp [Cell.setSlot], by simpa using r⟩
theorem Vec.len (F : Vec Z h a ty xs) : xs.length < 2147483648 := by obtain ⟨c, A, rfl, r⟩ := F; exact r
theorem VecR.lt (F : VecR Z h a C xs) : a < h.size := by obtain ⟨c, A, -⟩ := F; exact A.lt
theorem VecR.ext (F : VecR Z h a C xs) (E : Ext h h') : VecR Z h' a C xs := by obtain ⟨c, A, r⟩ := F; exact ⟨c, A.ext E, r⟩
theorem VecR.other (F : VecR Z h b C xs) (W : Wr h h' a sl v) (q : b ≠ a) : VecR Z h' b C xs := by obtain ⟨c, A, r⟩ := F; exact ⟨c, A.other W q, r⟩
theorem VecR.keep (F : VecR Z h a C xs) (K : Keep h h' ws) (q : a ∉ ws) : VecR Z h' a C xs := by obtain ⟨c, A, r⟩ := F; exact ⟨c, ⟨K.2.1 a c A.1 q, A.2⟩, r⟩
theorem VecR.vec (F : VecR Z h a C xs) : Vec Z h a (.object C) xs := by obtain ⟨c, A, r1, r2, -⟩ := F; exact ⟨c, A, r1, r2⟩
theorem VecR.set (F : VecR Z h a C xs) {i : Nat} (W : Wr h h' a i v) : VecR Z h' a C (xs.set i v) := by
  obtain ⟨c, A, rfl, r, o⟩ := F
  exact ⟨_, A.same W, by simp [Cell.setSlot], by simpa using r, o⟩
theorem clamp {j : Int32} {i : Nat} (hj : j.toInt = i) : j.toNatClampNeg = i ∧ ¬ j < 0 := by
  refine ⟨by simp [Int32.toNatClampNeg, hj], ?_⟩
  rw [Int32.lt_iff_toInt_lt, hj]; simp only [Int32.reduceToInt]; omega
end Vecs
def DV (Z : State) (h : Heap) (a : Addr) (xs : List UInt64) : Prop := Vec Z h a .double (xs.map Value.double)
theorem DV.lt {Z : State} {h : Heap} {a : Addr} {xs : List UInt64} (F : DV Z h a xs) : a < h.size := Vec.lt F
theorem DV.ext {Z : State} {h h' : Heap} {a : Addr} {xs : List UInt64} (F : DV Z h a xs) (E : Ext h h') : DV Z h' a xs := Vec.ext F E
theorem DV.other {Z : State} {h h' : Heap} {a b : Addr} {xs : List UInt64} {sl : Nat} {v : Value} (F : DV Z h b xs) (W : Wr h h' a sl v) (q : b ≠ a) : DV Z h' b xs := Vec.other F W q
theorem DV.keep {Z : State} {h h' : Heap} {a : Addr} {xs : List UInt64} {ws : List Addr} (F : DV Z h a xs) (K : Keep h h' ws) (q : a ∉ ws) : DV Z h' a xs := Vec.keep F K q
theorem DV.set {Z : State} {h h' : Heap} {a : Addr} {xs : List UInt64} {i : Nat} {x : UInt64} (F : DV Z h a xs) (W : Wr h h' a i (Value.double x)) : DV Z h' a (xs.set i x) := by
  have q := Vec.set F W
  rwa [← List.map_set] at q
def IV (Z : State) (h : Heap) (a : Addr) (xs : List Int32) : Prop := Vec Z h a .int (xs.map Value.int)
theorem IV.lt {Z : State} {h : Heap} {a : Addr} {xs : List Int32} (F : IV Z h a xs) : a < h.size := Vec.lt F
theorem IV.ext {Z : State} {h h' : Heap} {a : Addr} {xs : List Int32} (F : IV Z h a xs) (E : Ext h h') : IV Z h' a xs := Vec.ext F E
theorem IV.other {Z : State} {h h' : Heap} {a b : Addr} {xs : List Int32} {sl : Nat} {v : Value} (F : IV Z h b xs) (W : Wr h h' a sl v) (q : b ≠ a) : IV Z h' b xs := Vec.other F W q
theorem IV.keep {Z : State} {h h' : Heap} {a : Addr} {xs : List Int32} {ws : List Addr} (F : IV Z h a xs) (K : Keep h h' ws) (q : a ∉ ws) : IV Z h' a xs := Vec.keep F K q
theorem IV.set {Z : State} {h h' : Heap} {a : Addr} {xs : List Int32} {i : Nat} {x : Int32} (F : IV Z h a xs) (W : Wr h h' a i (Value.int x)) : IV Z h' a (xs.set i x) := by
  have q := Vec.set F W
  rwa [← List.map_set] at q
def JV (Z : State) (h : Heap) (a : Addr) (xs : List Int64) : Prop := Vec Z h a .long (xs.map Value.long)
theorem JV.lt {Z : State} {h : Heap} {a : Addr} {xs : List Int64} (F : JV Z h a xs) : a < h.size := Vec.lt F
theorem JV.ext {Z : State} {h h' : Heap} {a : Addr} {xs : List Int64} (F : JV Z h a xs) (E : Ext h h') : JV Z h' a xs := Vec.ext F E
theorem JV.other {Z : State} {h h' : Heap} {a b : Addr} {xs : List Int64} {sl : Nat} {v : Value} (F : JV Z h b xs) (W : Wr h h' a sl v) (q : b ≠ a) : JV Z h' b xs := Vec.other F W q
theorem JV.keep {Z : State} {h h' : Heap} {a : Addr} {xs : List Int64} {ws : List Addr} (F : JV Z h a xs) (K : Keep h h' ws) (q : a ∉ ws) : JV Z h' a xs := Vec.keep F K q
theorem JV.set {Z : State} {h h' : Heap} {a : Addr} {xs : List Int64} {i : Nat} {x : Int64} (F : JV Z h a xs) (W : Wr h h' a i (Value.long x)) : JV Z h' a (xs.set i x) := by
  have q := Vec.set F W
  rwa [← List.map_set] at q
def ZV (Z : State) (h : Heap) (a : Addr) (xs : List Int32) : Prop := Vec Z h a .boolean (xs.map Value.int)
theorem ZV.lt {Z : State} {h : Heap} {a : Addr} {xs : List Int32} (F : ZV Z h a xs) : a < h.size := Vec.lt F
theorem ZV.ext {Z : State} {h h' : Heap} {a : Addr} {xs : List Int32} (F : ZV Z h a xs) (E : Ext h h') : ZV Z h' a xs := Vec.ext F E
theorem ZV.other {Z : State} {h h' : Heap} {a b : Addr} {xs : List Int32} {sl : Nat} {v : Value} (F : ZV Z h b xs) (W : Wr h h' a sl v) (q : b ≠ a) : ZV Z h' b xs := Vec.other F W q
theorem ZV.keep {Z : State} {h h' : Heap} {a : Addr} {xs : List Int32} {ws : List Addr} (F : ZV Z h a xs) (K : Keep h h' ws) (q : a ∉ ws) : ZV Z h' a xs := Vec.keep F K q
theorem ZV.set {Z : State} {h h' : Heap} {a : Addr} {xs : List Int32} {i : Nat} {x : Int32} (F : ZV Z h a xs) (W : Wr h h' a i (Value.int x)) : ZV Z h' a (xs.set i x) := by
  have q := Vec.set F W
  rwa [← List.map_set] at q
theorem DV.new {Z : State} {h : Heap} {a : Addr} {N : Nat} (F : Vec Z h a (newarray.typeOf .double) (List.replicate N (defaultValue (newarray.typeOf .double)))) : DV Z h a (List.replicate N 0) := by
  unfold DV; rw [List.map_replicate]; exact F
theorem IV.new {Z : State} {h : Heap} {a : Addr} {N : Nat} (F : Vec Z h a (newarray.typeOf .int) (List.replicate N (defaultValue (newarray.typeOf .int)))) : IV Z h a (List.replicate N 0) := by
  unfold IV; rw [List.map_replicate]; exact F
theorem JV.new {Z : State} {h : Heap} {a : Addr} {N : Nat} (F : Vec Z h a (newarray.typeOf .long) (List.replicate N (defaultValue (newarray.typeOf .long)))) : JV Z h a (List.replicate N 0) := by
  unfold JV; rw [List.map_replicate]; exact F
theorem ZV.new {Z : State} {h : Heap} {a : Addr} {N : Nat} (F : Vec Z h a (newarray.typeOf .boolean) (List.replicate N (defaultValue (newarray.typeOf .boolean)))) : ZV Z h a (List.replicate N 0) := by
  unfold ZV; rw [List.map_replicate]; exact F
def HV (Z : State) (h : Heap) (a : Addr) (xs : List Nat) : Prop := Vec Z h a .int (xs.map (fun c : Nat => Value.int (Int32.ofNat c)))
theorem HV.lt {Z : State} {h : Heap} {a : Addr} {xs : List Nat} (F : HV Z h a xs) : a < h.size := Vec.lt F
theorem HV.ext {Z : State} {h h' : Heap} {a : Addr} {xs : List Nat} (F : HV Z h a xs) (E : Ext h h') : HV Z h' a xs := Vec.ext F E
theorem HV.other {Z : State} {h h' : Heap} {a b : Addr} {xs : List Nat} {sl : Nat} {v : Value} (F : HV Z h b xs) (W : Wr h h' a sl v) (q : b ≠ a) : HV Z h' b xs := Vec.other F W q
theorem HV.keep {Z : State} {h h' : Heap} {a : Addr} {xs : List Nat} {ws : List Addr} (F : HV Z h a xs) (K : Keep h h' ws) (q : a ∉ ws) : HV Z h' a xs := Vec.keep F K q
theorem HV.set {Z : State} {h h' : Heap} {a : Addr} {xs : List Nat} {i c : Nat} (F : HV Z h a xs) (W : Wr h h' a i (.int (Int32.ofNat c))) : HV Z h' a (xs.set i c) := by
  have q := Vec.set F W
  unfold HV
  rw [List.map_set]; exact q
theorem HV.new {Z : State} {h : Heap} {a : Addr} {N : Nat} (F : Vec Z h a (newarray.typeOf .int) (List.replicate N (defaultValue (newarray.typeOf .int)))) : HV Z h a (List.replicate N 0) := by
  unfold HV; rw [List.map_replicate]; exact F
theorem mapAt {α : Type} {f : α → Value} {xs : List α} {i : Nat} {x : α} (h : xs[i]? = some x) : (xs.map f)[i]? = some (f x) := by rw [List.getElem?_map, h]; rfl
theorem mapLt {α : Type} {f : α → Value} {xs : List α} {i : Nat} (h : i < xs.length) : i < (xs.map f).length := by rwa [List.length_map]
theorem getDAt {α : Type} {xs : List α} {i : Nat} {d : α} (h : i < xs.length) : xs[i]? = some (xs.getD i d) := by rw [List.getD_eq_getElem?_getD, List.getElem?_eq_getElem h]; rfl
section Walk2
variable {p : Program} {l : Launch} {e : Env} {R : Room} {s : State} {m : MethodId} {args : Array Value} {below : List Frame} {meth : Method} {c : Code} {Z : State} {a0 : Array Value} {own nm : String} {bytes : ByteArray} {ml : Nat} {ret : Option FieldType} {n0 ce sl pc pc' : Nat} {h : Heap} {Ls Ls' : Array Slot} {S : List Value} {Q : Option Value → Heap → Prop} {a : Addr} {ty : FieldType} {xs : List Value} {v : Value} {j : Int32} {i : Nat} {En : Option Value → State → List Loc → Prop}
theorem inb {cl : Cell} (e1 : cl.slots.toList = xs) (hj : j.toInt = i) (hi : i < xs.length) : ¬ (j < 0 ∨ cl.slots.size ≤ j.toNatClampNeg) := by
  obtain ⟨q1, q2⟩ := clamp hj
  subst e1
  rw [q1]; simp at hi; intro q; rcases q with q | q
  · exact q2 q
  · omega
theorem inv {cl : Cell} (e1 : cl.slots.toList = xs) (hj : j.toInt = i) (hv : xs[i]? = some v) : cl.slots[j.toNatClampNeg]? = some v := by
  obtain ⟨q1, q2⟩ := clamp hj
  subst e1
  rw [q1]; simpa using hv
theorem ltOf (hv : xs[i]? = some v) : i < xs.length := (List.getElem?_eq_some_iff.mp hv).1
theorem iaload (K : Cx Z own nm bytes ml ret p s m meth c) (F : Vec Z h a .int xs) (hj : j.toInt = i) (hv : xs[i]? = some v) (hd : decode bytes pc = .ok (.iaload, 1)) (hp : pc + 1 = pc') (q : GoE En p l e R s m args below meth c n0 h ce sl (mkF m pc' Ls (v :: S)) Q) : GoE En p l e R s m args below meth c n0 h ce sl (mkF m pc Ls (.int j :: .ref a :: S)) Q := by
  subst hp; obtain ⟨cl, A, e1, e2⟩ := F
  exact one (fun T L X eT t => X.iaload K.1 (by rw [eT]; exact A.1) (State.isArrayOf_alike K.2.1.alike A.2.1) A.2.2 (inb e1 hj (ltOf hv)) (inv e1 hj hv) (g := mkF m pc Ls (.int j :: .ref a :: S)) rfl rfl (hb K.2.2.2.1 hd) t) q
theorem laload (K : Cx Z own nm bytes ml ret p s m meth c) (F : Vec Z h a .long xs) (hj : j.toInt = i) (hv : xs[i]? = some v) (hd : decode bytes pc = .ok (.laload, 1)) (hp : pc + 1 = pc') (q : GoE En p l e R s m args below meth c n0 h ce sl (mkF m pc' Ls (v :: S)) Q) : GoE En p l e R s m args below meth c n0 h ce sl (mkF m pc Ls (.int j :: .ref a :: S)) Q := by
  subst hp; obtain ⟨cl, A, e1, e2⟩ := F
  exact one (fun T L X eT t => X.laload K.1 (by rw [eT]; exact A.1) (State.isArrayOf_alike K.2.1.alike A.2.1) A.2.2 (inb e1 hj (ltOf hv)) (inv e1 hj hv) (g := mkF m pc Ls (.int j :: .ref a :: S)) rfl rfl (hb K.2.2.2.1 hd) t) q
theorem daload (K : Cx Z own nm bytes ml ret p s m meth c) (F : Vec Z h a .double xs) (hj : j.toInt = i) (hv : xs[i]? = some v) (hd : decode bytes pc = .ok (.daload, 1)) (hp : pc + 1 = pc') (q : GoE En p l e R s m args below meth c n0 h ce sl (mkF m pc' Ls (v :: S)) Q) : GoE En p l e R s m args below meth c n0 h ce sl (mkF m pc Ls (.int j :: .ref a :: S)) Q := by
  subst hp; obtain ⟨cl, A, e1, e2⟩ := F
  exact one (fun T L X eT t => X.daload K.1 (by rw [eT]; exact A.1) (State.isArrayOf_alike K.2.1.alike A.2.1) A.2.2 (inb e1 hj (ltOf hv)) (inv e1 hj hv) (g := mkF m pc Ls (.int j :: .ref a :: S)) rfl rfl (hb K.2.2.2.1 hd) t) q
theorem zaload (K : Cx Z own nm bytes ml ret p s m meth c) (F : Vec Z h a .boolean xs) (hj : j.toInt = i) (hv : xs[i]? = some v) (hd : decode bytes pc = .ok (.baload, 1)) (hp : pc + 1 = pc') (q : GoE En p l e R s m args below meth c n0 h ce sl (mkF m pc' Ls (v :: S)) Q) : GoE En p l e R s m args below meth c n0 h ce sl (mkF m pc Ls (.int j :: .ref a :: S)) Q := by
  subst hp; obtain ⟨cl, A, e1, e2⟩ := F
  exact one (fun T L X eT t => X.baloadBooleans K.1 (by rw [eT]; exact A.1) (State.isArrayOf_alike K.2.1.alike A.2.1) A.2.2 (inb e1 hj (ltOf hv)) (inv e1 hj hv) (g := mkF m pc Ls (.int j :: .ref a :: S)) rfl rfl (hb K.2.2.2.1 hd) t) q
theorem baload (K : Cx Z own nm bytes ml ret p s m meth c) (F : Vec Z h a .byte xs) (hj : j.toInt = i) (hv : xs[i]? = some v) (hd : decode bytes pc = .ok (.baload, 1)) (hp : pc + 1 = pc') (q : GoE En p l e R s m args below meth c n0 h ce sl (mkF m pc' Ls (v :: S)) Q) : GoE En p l e R s m args below meth c n0 h ce sl (mkF m pc Ls (.int j :: .ref a :: S)) Q := by
  subst hp; obtain ⟨cl, A, e1, e2⟩ := F
  exact one (fun T L X eT t => X.baloadBytes K.1 (by rw [eT]; exact A.1) (State.isArrayOf_alike K.2.1.alike A.2.1) A.2.2 (inb e1 hj (ltOf hv)) (inv e1 hj hv) (g := mkF m pc Ls (.int j :: .ref a :: S)) rfl rfl (hb K.2.2.2.1 hd) t) q
theorem aaload (K : Cx Z own nm bytes ml ret p s m meth c) (F : Vec Z h a ty xs) (ht : ty.isReference = true) (hj : j.toInt = i) (hv : xs[i]? = some v) (hd : decode bytes pc = .ok (.aaload, 1)) (hp : pc + 1 = pc') (q : GoE En p l e R s m args below meth c n0 h ce sl (mkF m pc' Ls (v :: S)) Q) : GoE En p l e R s m args below meth c n0 h ce sl (mkF m pc Ls (.int j :: .ref a :: S)) Q := by
  subst hp; obtain ⟨cl, A, e1, e2⟩ := F
  exact one (fun T L X eT t => X.aaload K.1 (by rw [eT]; exact A.1) (State.isArrayOf_alike K.2.1.alike A.2.1) ht A.2.2 (inb e1 hj (ltOf hv)) (inv e1 hj hv) (g := mkF m pc Ls (.int j :: .ref a :: S)) rfl rfl (hb K.2.2.2.1 hd) t) q
theorem alen (K : Cx Z own nm bytes ml ret p s m meth c) (F : Vec Z h a ty xs) (hd : decode bytes pc = .ok (.arraylength, 1)) (hp : pc + 1 = pc') (q : GoE En p l e R s m args below meth c n0 h ce sl (mkF m pc' Ls (.int xs.length.toInt32 :: S)) Q) : GoE En p l e R s m args below meth c n0 h ce sl (mkF m pc Ls (.ref a :: S)) Q := by
  subst hp; obtain ⟨cl, A, e1, e2⟩ := F
  have hz : cl.slots.size = xs.length := by rw [← e1]; simp
  rw [← hz] at q
  exact one (fun T L X eT t => X.arraylength K.1 (by rw [eT]; exact A.1) (State.isArrayOf_alike K.2.1.alike A.2.1) (g := mkF m pc Ls (.ref a :: S)) rfl rfl (hb K.2.2.2.1 hd) t) q
theorem iastore (K : Cx Z own nm bytes ml ret p s m meth c) {x : Int32} (F : Vec Z h a .int xs) (hj : j.toInt = i) (hi : i < xs.length) (ga : n0 ≤ a) (hd : decode bytes pc = .ok (.iastore, 1)) (hp : pc + 1 = pc') (q : ∀ h', Wr h h' a i (.int x) → GoE En p l e R s m args below meth c n0 h' ce sl (mkF m pc' Ls S) Q) : GoE En p l e R s m args below meth c n0 h ce sl (mkF m pc Ls (.int x :: .int j :: .ref a :: S)) Q := by
  subst hp; obtain ⟨cl, A, e1, e2⟩ := F
  intro T L0 X N eT
  obtain ⟨T', h', X', e', W, st⟩ := stI X K.1 K.2.1 eT A (inb e1 hj hi) (g := mkF m pc Ls (.int x :: .int j :: .ref a :: S)) rfl rfl (hb K.2.2.2.1 hd)
  rw [(clamp hj).1] at W
  obtain ⟨s₂, u, L', a1, r⟩ := q h' W T' _ X' (Fr.snoc X' N ga) e'
  exact ⟨s₂, u, L', st _ a1, r⟩
theorem lastore (K : Cx Z own nm bytes ml ret p s m meth c) {x : Int64} (F : Vec Z h a .long xs) (hj : j.toInt = i) (hi : i < xs.length) (ga : n0 ≤ a) (hd : decode bytes pc = .ok (.lastore, 1)) (hp : pc + 1 = pc') (q : ∀ h', Wr h h' a i (.long x) → GoE En p l e R s m args below meth c n0 h' ce sl (mkF m pc' Ls S) Q) : GoE En p l e R s m args below meth c n0 h ce sl (mkF m pc Ls (.long x :: .int j :: .ref a :: S)) Q := by
  subst hp; obtain ⟨cl, A, e1, e2⟩ := F
  intro T L0 X N eT
  obtain ⟨T', h', X', e', W, st⟩ := stJ X K.1 K.2.1 eT A (inb e1 hj hi) (g := mkF m pc Ls (.long x :: .int j :: .ref a :: S)) rfl rfl (hb K.2.2.2.1 hd)
  rw [(clamp hj).1] at W
  obtain ⟨s₂, u, L', a1, r⟩ := q h' W T' _ X' (Fr.snoc X' N ga) e'
  exact ⟨s₂, u, L', st _ a1, r⟩
theorem dastore (K : Cx Z own nm bytes ml ret p s m meth c) {x : UInt64} (F : Vec Z h a .double xs) (hj : j.toInt = i) (hi : i < xs.length) (ga : n0 ≤ a) (hd : decode bytes pc = .ok (.dastore, 1)) (hp : pc + 1 = pc') (q : ∀ h', Wr h h' a i (.double x) → GoE En p l e R s m args below meth c n0 h' ce sl (mkF m pc' Ls S) Q) : GoE En p l e R s m args below meth c n0 h ce sl (mkF m pc Ls (.double x :: .int j :: .ref a :: S)) Q := by
  subst hp; obtain ⟨cl, A, e1, e2⟩ := F
  intro T L0 X N eT
  obtain ⟨T', h', X', e', W, st⟩ := stD X K.1 K.2.1 eT A (inb e1 hj hi) (g := mkF m pc Ls (.double x :: .int j :: .ref a :: S)) rfl rfl (hb K.2.2.2.1 hd)
  rw [(clamp hj).1] at W
  obtain ⟨s₂, u, L', a1, r⟩ := q h' W T' _ X' (Fr.snoc X' N ga) e'
  exact ⟨s₂, u, L', st _ a1, r⟩
theorem zastore (K : Cx Z own nm bytes ml ret p s m meth c) {x : Int32} (F : Vec Z h a .boolean xs) (hj : j.toInt = i) (hi : i < xs.length) (ga : n0 ≤ a) (hd : decode bytes pc = .ok (.bastore, 1)) (hp : pc + 1 = pc') (q : ∀ h', Wr h h' a i (.int (nar .boolean x)) → GoE En p l e R s m args below meth c n0 h' ce sl (mkF m pc' Ls S) Q) : GoE En p l e R s m args below meth c n0 h ce sl (mkF m pc Ls (.int x :: .int j :: .ref a :: S)) Q := by
  subst hp; obtain ⟨cl, A, e1, e2⟩ := F
  intro T L0 X N eT
  obtain ⟨T', h', X', e', W, st⟩ := stZ X K.1 K.2.1 eT A (inb e1 hj hi) (g := mkF m pc Ls (.int x :: .int j :: .ref a :: S)) rfl rfl (hb K.2.2.2.1 hd)
  rw [(clamp hj).1] at W
  obtain ⟨s₂, u, L', a1, r⟩ := q h' W T' _ X' (Fr.snoc X' N ga) e'
  exact ⟨s₂, u, L', st _ a1, r⟩
theorem bastore (K : Cx Z own nm bytes ml ret p s m meth c) {x : Int32} (F : Vec Z h a .byte xs) (hj : j.toInt = i) (hi : i < xs.length) (ga : n0 ≤ a) (hd : decode bytes pc = .ok (.bastore, 1)) (hp : pc + 1 = pc') (q : ∀ h', Wr h h' a i (.int (nar .byte x)) → GoE En p l e R s m args below meth c n0 h' ce sl (mkF m pc' Ls S) Q) : GoE En p l e R s m args below meth c n0 h ce sl (mkF m pc Ls (.int x :: .int j :: .ref a :: S)) Q := by
  subst hp; obtain ⟨cl, A, e1, e2⟩ := F
  intro T L0 X N eT
  obtain ⟨T', h', X', e', W, st⟩ := stB X K.1 K.2.1 eT A (inb e1 hj hi) (g := mkF m pc Ls (.int x :: .int j :: .ref a :: S)) rfl rfl (hb K.2.2.2.1 hd)
  rw [(clamp hj).1] at W
  obtain ⟨s₂, u, L', a1, r⟩ := q h' W T' _ X' (Fr.snoc X' N ga) e'
  exact ⟨s₂, u, L', st _ a1, r⟩
theorem aastore (K : Cx Z own nm bytes ml ret p s m meth c) {C : String} (F : VecR Z h a C xs) (hS : v = .null ∨ ∃ y, v = .ref y ∧ Ins Z h y C true) (hj : j.toInt = i) (hi : i < xs.length) (ga : n0 ≤ a) (hd : decode bytes pc = .ok (.aastore, 1)) (hp : pc + 1 = pc') (q : ∀ h', Wr h h' a i v → GoE En p l e R s m args below meth c n0 h' ce sl (mkF m pc' Ls S) Q) : GoE En p l e R s m args below meth c n0 h ce sl (mkF m pc Ls (v :: .int j :: .ref a :: S)) Q := by
  subst hp; obtain ⟨cl, A, e1, e2, O⟩ := F
  intro T L0 X N eT
  have hSt : Sto Z h a v := by
    rcases hS with rfl | ⟨y, rfl, I⟩
    · exact Or.inl rfl
    · exact Sto.of A O I
  obtain ⟨T', h', X', e', W, st⟩ := stR X K.1 K.2.1 eT A (inb e1 hj hi) rfl hSt (g := mkF m pc Ls (v :: .int j :: .ref a :: S)) rfl rfl (hb K.2.2.2.1 hd)
  rw [(clamp hj).1] at W
  obtain ⟨s₂, u, L', a1, r⟩ := q h' W T' _ X' (Fr.snoc X' N ga) e'
  exact ⟨s₂, u, L', st _ a1, r⟩
theorem newArr (K : Cx Z own nm bytes ml ret p s m meth c) {aty : ArrayType} {n : Int32} {N : Nat} (w : (Cond.arrayClass (newarray.typeOf aty)).before a0 Z = true) (hn : n.toInt = N) (hb : N * 8 ≤ 536870912) (hd : decode bytes pc = .ok (.newarray aty, 2)) (hc : ce + 1 ≤ R.cells) (hl : sl + N ≤ R.slots) (hp : pc + 2 = pc') (q : ∀ h' x, x = h.size → Ext h h' → Vec Z h' x (newarray.typeOf aty) (List.replicate N (defaultValue (newarray.typeOf aty))) → GoE En p l e R s m args below meth c n0 h' (ce + 1) (sl + N) (mkF m pc' Ls (.ref x :: S)) Q) : GoE En p l e R s m args below meth c n0 h ce sl (mkF m pc Ls (.int n :: S)) Q := by
  subst hp
  obtain ⟨c1, c2⟩ := clamp hn
  intro T L0 X N0 eT
  obtain ⟨T', h', cA, X', e', E, A, st⟩ := newP X K.1 K.2.1 w eT (g := mkF m pc Ls (.int n :: S)) rfl (Jvm.hb K.2.2.2.1 hd) rfl c2 (cap := N) (Nat.le_of_eq c1) hb hc hl
  obtain ⟨s₂, u, L', a1, r⟩ := q h' h.size rfl E ⟨_, A, by simp [newA, c1], by simp; omega⟩ T' _ X' N0 e'
  exact ⟨s₂, u, L', st _ a1, r⟩
theorem newArrC (K : Cx Z own nm bytes ml ret p s m meth c) {aty : ArrayType} {n : Int32} {N cap : Nat} (w : (Cond.arrayClass (newarray.typeOf aty)).before a0 Z = true) (hn : n.toInt = N) (hcap : N ≤ cap) (hb : cap * 8 ≤ 536870912) (hd : decode bytes pc = .ok (.newarray aty, 2)) (hc : ce + 1 ≤ R.cells) (hl : sl + cap ≤ R.slots) (hp : pc + 2 = pc') (q : ∀ h' x, x = h.size → Ext h h' → Vec Z h' x (newarray.typeOf aty) (List.replicate N (defaultValue (newarray.typeOf aty))) → GoE En p l e R s m args below meth c n0 h' (ce + 1) (sl + cap) (mkF m pc' Ls (.ref x :: S)) Q) : GoE En p l e R s m args below meth c n0 h ce sl (mkF m pc Ls (.int n :: S)) Q := by
  subst hp
  obtain ⟨c1, c2⟩ := clamp hn
  intro T L0 X N0 eT
  obtain ⟨T', h', cA, X', e', E, A, st⟩ := newP X K.1 K.2.1 w eT (g := mkF m pc Ls (.int n :: S)) rfl (Jvm.hb K.2.2.2.1 hd) rfl c2 (cap := cap) (by omega) hb hc hl
  obtain ⟨s₂, u, L', a1, r⟩ := q h' h.size rfl E ⟨_, A, by simp [newA, c1], by simp; omega⟩ T' _ X' N0 e'
  exact ⟨s₂, u, L', st _ a1, r⟩
theorem newArrR (K : Cx Z own nm bytes ml ret p s m meth c) {k : Nat} {C : String} {n : Int32} {N : Nat} (w1 : (Cond.classLink own k C).before a0 Z = true) (w2 : (Cond.arrayOver (.object C)).before a0 Z = true) (hn : n.toInt = N) (hb : N * 8 ≤ 536870912) (hd : decode bytes pc = .ok (.anewarray k, 3)) (hc : ce + 1 ≤ R.cells) (hl : sl + N ≤ R.slots) (hp : pc + 3 = pc') (q : ∀ h' x, x = h.size → Ext h h' → VecR Z h' x C (List.replicate N .null) → GoE En p l e R s m args below meth c n0 h' (ce + 1) (sl + N) (mkF m pc' Ls (.ref x :: S)) Q) : GoE En p l e R s m args below meth c n0 h ce sl (mkF m pc Ls (.int n :: S)) Q := by
  subst hp
  obtain ⟨c1, c2⟩ := clamp hn
  intro T L0 X N0 eT
  obtain ⟨T', h', cA, X', e', E, A, O, st⟩ := newR X K.1 K.2.1 K.2.2.1 w1 w2 eT (g := mkF m pc Ls (.int n :: S)) rfl (Jvm.hb K.2.2.2.1 hd) rfl c2 (cap := N) (Nat.le_of_eq c1) hb hc hl
  obtain ⟨s₂, u, L', a1, r⟩ := q h' h.size rfl E ⟨_, A, by simp [newA, c1, defaultValue], by simp; omega, O⟩ T' _ X' N0 e'
  exact ⟨s₂, u, L', st _ a1, r⟩
theorem cast' (K : Cx Z own nm bytes ml ret p s m meth c) {k : Nat} {K' : String} (w : (Cond.classLink own k K').before a0 Z = true) (F : Ins Z h a K' true) (hd : decode bytes pc = .ok (.checkcast k, 3)) (hp : pc + 3 = pc') (q : GoE En p l e R s m args below meth c n0 h ce sl (mkF m pc' Ls (.ref a :: S)) Q) : GoE En p l e R s m args below meth c n0 h ce sl (mkF m pc Ls (.ref a :: S)) Q := by
  subst hp; exact oneT (fun T L X eT => castY X K.1 K.2.1 K.2.2.1 w eT F (g := mkF m pc Ls (.ref a :: S)) rfl rfl (hb K.2.2.2.1 hd)) q
end Walk2
/-- a body's walk is its contract -/
theorem ctr {l : Launch} {Z : State} {y : MethodName} {bytes : ByteArray} {ml : Nat} {ret : Option FieldType} {ws : List Cond} {rm : Room} {n0 : Nat} {as' : Array Value} {h : Heap} {Q : Option Value → Heap → Prop} {own nm : String} (ho : y.cls = own) (hn : y.name = nm) {Ls : Array Slot} (hpl : plainFor y = true) (hef : ∀ m : MethodId, entryFrame m as' ml = mkF m 0 Ls [])
    (body : ∀ (p : Program) (e : Env) (s : State) (m : MethodId) (below : List Frame) (meth : Method) (c : Code), Cx Z own nm bytes ml ret p s m meth c → s.heap = h → Go p l e rm s m as' below meth c n0 h 0 0 (mkF m 0 Ls []) Q) : Ctr l Z y bytes ml ret ws rm n0 as' h Q := by
  subst ho hn
  refine MetFree.of_bodySF hpl hisR ?_
  intro p e s m args below meth c s₁ Bd hml hP hK
  obtain ⟨rfl, hZ, hh⟩ := hP
  have X0 : Stand p l e rm s m _ below meth c s₁ [] 0 0 := Stand.of_body Bd
  have e0 : s₁.heap = h := by rw [← hh, Bd.state]; rfl
  obtain ⟨s₂, v, L', a1, a2, a3, a4, a5, a6⟩ := body p e s m below meth c ⟨Bd.exec, hZ, findClass_of_methodNamed Bd.named, Bd.bytes, hml, Bd.returns, BodyLoose.notSynchronized Bd, (name_of_methodNamed Bd.named Bd.method).1⟩ hh s₁ [] X0 (Fr.nil n0) e0
  exact ⟨s₂, _, castTop (hef m) a1, a2, a3, v, L', rfl, ⟨a5, a4⟩, a6⟩
/-- a term that the case sets equal to a double -/
theorem eqD {args : Array Value} {first s : State} {o : Option Outcome} {idx : List Nat} {a b : Term} {n : UInt64} (h : (Cond.eq a b).value args first o s idx = some true) (hb : b.eval args first o idx s = some (.double n)) : a.eval args first o idx s = some (.double n) := by
  simp only [Cond.value, hb] at h
  cases ha : a.eval args first o idx s with
  | none => simp [ha] at h
  | some x => cases x <;> simp [ha] at h ⊢; exact h
/-- a term that the case sets equal to a reference -/
theorem eqR {args : Array Value} {first s : State} {o : Option Outcome} {idx : List Nat} {a b : Term} {n : Addr} (h : (Cond.eq a b).value args first o s idx = some true) (hb : b.eval args first o idx s = some (.ref n)) : a.eval args first o idx s = some (.ref n) := by
  simp only [Cond.value, hb] at h
  cases ha : a.eval args first o idx s with
  | none => simp [ha] at h
  | some x => cases x <;> simp [ha] at h ⊢; exact h
theorem eqI {args : Array Value} {first s : State} {o : Option Outcome} {idx : List Nat} {a b : Term} {n : Int32} (h : (Cond.eq a b).value args first o s idx = some true) (hb : b.eval args first o idx s = some (.int n)) : a.eval args first o idx s = some (.int n) := by
  simp only [Cond.value, hb] at h
  cases ha : a.eval args first o idx s with
  | none => simp [ha] at h
  | some x => cases x <;> simp [ha] at h ⊢; exact h
/-! the branch behind a comparison of doubles -/
def dge (r : Option Ordering) : Prop := r = some .eq ∨ r = some .gt
def dle (r : Option Ordering) : Prop := r = some .lt ∨ r = some .eq
section Dd
variable {r : Option Ordering}
theorem dd_l_eq_t (h : r = some .eq) : ifCond.holds .eq (cmpValue r .l) = true := by
  revert h; try unfold dge
  try unfold dle
  rcases r with _ | (_ | _ | _) <;> decide
theorem dd_l_eq_f (h : ¬ r = some .eq) : ifCond.holds .eq (cmpValue r .l) = false := by
  revert h; try unfold dge
  try unfold dle
  rcases r with _ | (_ | _ | _) <;> decide
theorem dd_l_ne_t (h : ¬ r = some .eq) : ifCond.holds .ne (cmpValue r .l) = true := by
  revert h; try unfold dge
  try unfold dle
  rcases r with _ | (_ | _ | _) <;> decide
theorem dd_l_ne_f (h : r = some .eq) : ifCond.holds .ne (cmpValue r .l) = false := by
  revert h; try unfold dge
  try unfold dle
  rcases r with _ | (_ | _ | _) <;> decide
theorem dd_l_lt_t (h : ¬ dge r) : ifCond.holds .lt (cmpValue r .l) = true := by
  revert h; try unfold dge
  try unfold dle
  rcases r with _ | (_ | _ | _) <;> decide
theorem dd_l_lt_f (h : dge r) : ifCond.holds .lt (cmpValue r .l) = false := by
  revert h; try unfold dge
  try unfold dle
  rcases r with _ | (_ | _ | _) <;> decide
theorem dd_l_ge_t (h : dge r) : ifCond.holds .ge (cmpValue r .l) = true := by
  revert h; try unfold dge
  try unfold dle
  rcases r with _ | (_ | _ | _) <;> decide
theorem dd_l_ge_f (h : ¬ dge r) : ifCond.holds .ge (cmpValue r .l) = false := by
  revert h; try unfold dge
  try unfold dle
  rcases r with _ | (_ | _ | _) <;> decide
theorem dd_l_gt_t (h : r = some .gt) : ifCond.holds .gt (cmpValue r .l) = true := by
  revert h; try unfold dge
  try unfold dle
  rcases r with _ | (_ | _ | _) <;> decide
theorem dd_l_gt_f (h : ¬ r = some .gt) : ifCond.holds .gt (cmpValue r .l) = false := by
  revert h; try unfold dge
  try unfold dle
  rcases r with _ | (_ | _ | _) <;> decide
theorem dd_l_le_t (h : ¬ r = some .gt) : ifCond.holds .le (cmpValue r .l) = true := by
  revert h; try unfold dge
  try unfold dle
  rcases r with _ | (_ | _ | _) <;> decide
theorem dd_l_le_f (h : r = some .gt) : ifCond.holds .le (cmpValue r .l) = false := by
  revert h; try unfold dge
  try unfold dle
  rcases r with _ | (_ | _ | _) <;> decide
theorem dd_g_eq_t (h : r = some .eq) : ifCond.holds .eq (cmpValue r .g) = true := by
  revert h; try unfold dge
  try unfold dle
  rcases r with _ | (_ | _ | _) <;> decide
theorem dd_g_eq_f (h : ¬ r = some .eq) : ifCond.holds .eq (cmpValue r .g) = false := by
  revert h; try unfold dge
  try unfold dle
  rcases r with _ | (_ | _ | _) <;> decide
theorem dd_g_ne_t (h : ¬ r = some .eq) : ifCond.holds .ne (cmpValue r .g) = true := by
  revert h; try unfold dge
  try unfold dle
  rcases r with _ | (_ | _ | _) <;> decide
theorem dd_g_ne_f (h : r = some .eq) : ifCond.holds .ne (cmpValue r .g) = false := by
  revert h; try unfold dge
  try unfold dle
  rcases r with _ | (_ | _ | _) <;> decide
theorem dd_g_lt_t (h : r = some .lt) : ifCond.holds .lt (cmpValue r .g) = true := by
  revert h; try unfold dge
  try unfold dle
  rcases r with _ | (_ | _ | _) <;> decide
theorem dd_g_lt_f (h : ¬ r = some .lt) : ifCond.holds .lt (cmpValue r .g) = false := by
  revert h; try unfold dge
  try unfold dle
  rcases r with _ | (_ | _ | _) <;> decide
theorem dd_g_ge_t (h : ¬ r = some .lt) : ifCond.holds .ge (cmpValue r .g) = true := by
  revert h; try unfold dge
  try unfold dle
  rcases r with _ | (_ | _ | _) <;> decide
theorem dd_g_ge_f (h : r = some .lt) : ifCond.holds .ge (cmpValue r .g) = false := by
  revert h; try unfold dge
  try unfold dle
  rcases r with _ | (_ | _ | _) <;> decide
theorem dd_g_gt_t (h : ¬ dle r) : ifCond.holds .gt (cmpValue r .g) = true := by
  revert h; try unfold dge
  try unfold dle
  rcases r with _ | (_ | _ | _) <;> decide
theorem dd_g_gt_f (h : dle r) : ifCond.holds .gt (cmpValue r .g) = false := by
  revert h; try unfold dge
  try unfold dle
  rcases r with _ | (_ | _ | _) <;> decide
theorem dd_g_le_t (h : dle r) : ifCond.holds .le (cmpValue r .g) = true := by
  revert h; try unfold dge
  try unfold dle
  rcases r with _ | (_ | _ | _) <;> decide
theorem dd_g_le_f (h : ¬ dle r) : ifCond.holds .le (cmpValue r .g) = false := by
  revert h; try unfold dge
  try unfold dle
  rcases r with _ | (_ | _ | _) <;> decide
end Dd
end Jvm.OwnWp
namespace Jvm.OwnFl
open Jvm.FP Jvm.FP.Core
theorem pow_swap {X Y A B u v : Nat} (h : X * 2 ^ A = Y * 2 ^ B) (e : A + v = B + u) : X * 2 ^ u = Y * 2 ^ v := by
  have p := Nat.two_pow_pos B
  refine Nat.eq_of_mul_eq_mul_right p ?_
  calc X * 2 ^ u * 2 ^ B = X * 2 ^ (B + u) := by rw [Nat.pow_add]; ac_rfl
    _ = X * 2 ^ A * 2 ^ v := by rw [← e, Nat.pow_add]; ac_rfl
    _ = Y * 2 ^ v * 2 ^ B := by rw [h]; ac_rfl
theorem dint_fin {i : Int} {a : UInt64} (h : DInt i a) : ∃ s c q, val64 a = .fin s c q ∧ Whole i (.fin s c q) := by
  unfold DInt at h
  cases hv : val64 a with
  | nan => rw [hv] at h; exact h.elim
  | inf s => rw [hv] at h; exact h.elim
  | fin s c q => rw [hv] at h; exact ⟨s, c, q, rfl, h⟩
/-- the quotient of two whole numbers, the divisor above nought, the dividend not nought -/
theorem ddiv_ratio {i j : Int} {a b : UInt64} (ha : DInt i a) (hb : DInt j b) (hi : i ≠ 0) (hj : 0 < j) : val64 (Core.ddiv a b) = roundRatio b64 (decide (i < 0)) i.natAbs j.natAbs 0 := by
  obtain ⟨s, c, q, ea, wa⟩ := dint_fin ha
  obtain ⟨t, d, r, eb, wb⟩ := dint_fin hb
  rw [val64_ddiv, ea, eb]
  have hd : d ≠ 0 := fun h => by have := (whole_zero wb).mp h; omega
  have hs := whole_sign wa hi
  have ht := whole_sign wb (by omega : j ≠ 0)
  have hj' : decide (j < 0) = false := by simp; omega
  rw [hj'] at ht
  subst hs ht
  show (if d = 0 then (if c = 0 then Datum.nan else .inf (decide (i < 0) != false)) else roundRatio b64 (decide (i < 0) != false) c d (q - r)) = _
  rw [if_neg hd, Bool.bne_false]
  have h1 := whole_natAbs wa
  have h2 := whole_natAbs wb
  refine roundRatio_congr (Nat.pos_of_ne_zero hd) (by omega) ?_
  refine pow_swap (A := q.toNat + (-r).toNat) (B := (-q).toNat + r.toNat) ?_ (by omega)
  rw [Nat.pow_add, Nat.pow_add]
  calc c * j.natAbs * (2 ^ q.toNat * 2 ^ (-r).toNat) = (c * 2 ^ q.toNat) * (j.natAbs * 2 ^ (-r).toNat) := by ac_rfl
    _ = (i.natAbs * 2 ^ (-q).toNat) * (d * 2 ^ r.toNat) := by rw [h1, h2]
    _ = i.natAbs * d * (2 ^ (-q).toNat * 2 ^ r.toNat) := by ac_rfl
/-- a quotient that comes out whole -/
theorem ddiv_int {i j k : Int} {a b : UInt64} (ha : DInt i a) (hb : DInt j b) (hj : 0 < j) (h : i = k * j) (hk : k.natAbs ≤ 2 ^ 53) : DInt k (Core.ddiv a b) := by
  by_cases hi : i = 0
  · have hk0 : k = 0 := by rcases Int.mul_eq_zero.mp (h.symm.trans hi) with q | q <;> omega
    subst hk0 hi
    obtain ⟨s, c, q, ea, wa⟩ := dint_fin ha
    obtain ⟨t, d, r, eb, wb⟩ := dint_fin hb
    have hd : d ≠ 0 := fun h => by have := (whole_zero wb).mp h; omega
    have hc : c = 0 := (whole_zero wa).mpr rfl
    unfold DInt
    rw [val64_ddiv, ea, eb]
    show Whole 0 (if d = 0 then (if c = 0 then Datum.nan else .inf (s != t)) else roundRatio b64 (s != t) c d (q - r))
    rw [if_neg hd, hc]
    show Whole 0 (if (0 : Nat) = 0 then Datum.fin (s != t) 0 b64.qmin else _)
    rw [if_pos rfl]
    show signed (s != t) (0 * _) = 0 * _
    rw [Nat.zero_mul, Int.zero_mul]; exact signed_zero _
  · have hk0 : k ≠ 0 := fun q => hi (by rw [h, q, Int.zero_mul])
    have hs : decide (i < 0) = decide (k < 0) := by
      rw [decide_eq_decide, h]
      constructor
      · intro q; refine Int.lt_of_not_ge fun g => ?_
        have := Int.mul_nonneg g (Int.le_of_lt hj); omega
      · intro q; exact Int.mul_neg_of_neg_of_pos q hj
    have e : val64 (Core.ddiv a b) = Core.round b64 (ofInt k) := by
      rw [ddiv_ratio ha hb hi hj, hs]
      show _ = roundRatio b64 (decide (k < 0)) k.natAbs 1 0
      refine roundRatio_congr (by omega) (by decide) ?_
      rw [h, Int.natAbs_mul]; simp
    unfold DInt
    rw [e]
    exact whole_round good_b64 wide_b64 hk (whole_ofInt k)
/-- a quotient of whole numbers above nought lies beneath what its exact value lies beneath -/
theorem ddiv_le {i j : Int} {a b V : UInt64} (ha : DInt i a) (hb : DInt j b) (hi : 0 < i) (hj : 0 < j) (hV : val64 V ≠ .nan) (h : i * (one64 : Int) ≤ zval b64 (val64 V) * j) : val64 (Core.ddiv a b) ≠ .nan ∧ zval b64 (val64 (Core.ddiv a b)) ≤ zval b64 (val64 V) := by
  have e := ddiv_ratio ha hb (by omega) hj
  have hd : decide (i < 0) = false := by simp; omega
  rw [hd] at e
  refine ⟨by rw [e]; exact roundRatio_ne_nan _ _ _ _ _, ?_⟩
  have h0 : 0 < zval b64 (val64 V) := by
    refine Int.lt_of_not_ge fun g => ?_
    have h1 : zval b64 (val64 V) * j ≤ 0 := Int.mul_nonpos_of_nonpos_of_nonneg g (Int.le_of_lt hj)
    have h2 : 0 < i * (one64 : Int) := Int.mul_pos hi (by have := one64_pos; omega)
    omega
  have hz : zval b64 (val64 V) = (zmag b64 (val64 V) : Int) := by
    unfold zval at h0 ⊢; exact (signed_pos h0).1
  have key := zmag_roundRatio_le good_b64 (s := false) (A := i.natAbs) (B := j.natAbs) (e := 0) (e0 := b64.qmin) (V := val64 V) (by omega) (val64_fits V) hV (Int.le_refl _) (by decide) (by
    rw [Int.sub_self, Int.toNat_zero, Nat.pow_zero, Nat.mul_one]
    show i.natAbs * 2 ^ (0 - b64.qmin).toNat ≤ _
    rw [Int.zero_sub, pow_qmin64]
    rw [hz] at h
    have : ((i.natAbs * one64 : Nat) : Int) ≤ ((zmag b64 (val64 V) * j.natAbs : Nat) : Int) := by
      rw [Int.natCast_mul, Int.natCast_mul, Int.natAbs_of_nonneg (Int.le_of_lt hi), Int.natAbs_of_nonneg (Int.le_of_lt hj)]; exact h
    omega)
  rw [e, hz]
  unfold zval
  rw [sgn_roundRatio]
  show ((zmag b64 (roundRatio b64 false i.natAbs j.natAbs 0) : Nat) : Int) ≤ _
  omega
theorem ddiv_ge {i j : Int} {a b V : UInt64} (ha : DInt i a) (hb : DInt j b) (hi : 0 < i) (hj : 0 < j) (hV : val64 V ≠ .nan) (h : zval b64 (val64 V) * j ≤ i * (one64 : Int)) : zval b64 (val64 V) ≤ zval b64 (val64 (Core.ddiv a b)) := by
  have e := ddiv_ratio ha hb (by omega) hj
  have hd : decide (i < 0) = false := by simp; omega
  rw [hd] at e
  rw [e]
  have hp : 0 ≤ zval b64 (roundRatio b64 false i.natAbs j.natAbs 0) := by
    unfold zval; rw [sgn_roundRatio]; show (0 : Int) ≤ ((zmag b64 (roundRatio b64 false i.natAbs j.natAbs 0) : Nat) : Int); omega
  by_cases h0 : 0 < zval b64 (val64 V)
  · have hz : zval b64 (val64 V) = (zmag b64 (val64 V) : Int) := by
      unfold zval at h0 ⊢; exact (signed_pos h0).1
    have key := zmag_roundRatio_ge good_b64 (s := false) (A := i.natAbs) (B := j.natAbs) (e := 0) (e0 := b64.qmin) (V := val64 V) (by omega) (val64_fits V) (Int.le_refl _) (by decide) (by
      rw [Int.sub_self, Int.toNat_zero, Nat.pow_zero, Nat.mul_one]
      show _ ≤ i.natAbs * 2 ^ (0 - b64.qmin).toNat
      rw [Int.zero_sub, pow_qmin64]
      rw [hz] at h
      have : ((zmag b64 (val64 V) * j.natAbs : Nat) : Int) ≤ ((i.natAbs * one64 : Nat) : Int) := by
        rw [Int.natCast_mul, Int.natCast_mul, Int.natAbs_of_nonneg (Int.le_of_lt hi), Int.natAbs_of_nonneg (Int.le_of_lt hj)]; exact h
      omega)
    rw [hz]
    unfold zval
    rw [sgn_roundRatio]
    show _ ≤ ((zmag b64 (roundRatio b64 false i.natAbs j.natAbs 0) : Nat) : Int)
    omega
  · omega
theorem dint_nn {i : Int} {a : UInt64} (h : DInt i a) : Jvm.Free.Fl.NoNaN64 a := Jvm.Free.Fl.val64_no.mpr (DInt_ne_nan h)
end Jvm.OwnFl
namespace Jvm.OwnWp
open Sem ClassFile Op Lib Jvm.Stand Jvm.Free Jvm.LawKit Jvm.RoadKit
/-- the wide end: constants may have been interned since the true start -/
abbrev EnW (s0 : State) (R : Room) : Option Value → State → List Loc → Prop := fun v s₂ L' => ReturnedEndW s0 (.returned v) s₂ L' R.cells R.slots
def CtrW (l : Launch) (Z : State) (y : MethodName) (bytes : ByteArray) (ml : Nat) (ret : Option FieldType) (ws : List Cond) (rm : Room) (n0 : Nat) (as' : Array Value) (h : Heap) (Q : Option Value → Heap → Prop) : Prop :=
  MetFree l y (head1 (Cond.code y bytes ml ret :: ws) rm) (fun a U => a = as' ∧ Z.Warmed39 U.vm ∧ U.heap = h) (fun _ _ _ _ _ => True) (fun _ U o U' => ∃ v L, o = .returned v ∧ (Q v U'.heap ∧ Fr n0 L) ∧ ReturnedEndW U o U' L rm.cells rm.slots)
section Walk
variable {p : Program} {l : Launch} {e : Env} {R : Room} {s : State} {vm0 : Vm} {k0 : Nat} {m : MethodId} {args : Array Value} {below : List Frame} {meth : Method} {c : Code} {Z : State} {a0 : Array Value} {own nm : String} {bytes : ByteArray} {ml : Nat} {ret : Option FieldType} {n0 ce sl pc pc' : Nat} {h : Heap} {Ls Ls' : Array Slot} {S : List Value} {Q : Option Value → Heap → Prop} {En : Option Value → State → List Loc → Prop}
theorem ldcG (K : Cx Z own nm bytes ml ret p (s.setVm vm0) m meth c) (hS : s.Since vm0 k0) (hk : k0 ≤ h.size) {i : Nat} {text : String} (w : (Cond.stringLink own i text).before a0 Z = true) (wS : ∀ a ∈ Bundle.stringAtoms, a.before a0 Z = true) (hd : decode bytes pc = .ok (.ldc i, 2)) {n : Nat} (hn : 4 * text.toList.length ≤ n) (hbig : n ≤ 536870912) (hc : ce + 2 ≤ R.cells) (hl : sl + (n + 4) ≤ R.slots) (hp : pc + 2 = pc')
    (q : ∀ (vm1 : Vm) (a : Addr) (h' : Heap) (k1 : Nat), Cx Z own nm bytes ml ret p (s.setVm vm1) m meth c → s.Since vm1 k1 → k1 ≤ h'.size → Ext h h' → GoE En p l e R (s.setVm vm1) m args below meth c n0 h' (ce + 2) (sl + (n + 4)) (mkF m pc' Ls (.ref a :: S)) Q) : GoE En p l e R (s.setVm vm0) m args below meth c n0 h ce sl (mkF m pc Ls S) Q := by
  subst hp
  intro T L0 X N eT
  obtain ⟨a, T', h', k1, X', e', E, hS', hk', hZ', hown', st⟩ := ldcS X K.1 K.2.1 K.2.2.1 w wS eT hS hk (g := mkF m pc Ls S) rfl (hb K.2.2.2.1 hd) hn hbig hc hl
  obtain ⟨s₂, u, L', a1, r⟩ := q T'.vm a h' k1 ⟨K.1, hZ', hown', K.2.2.2⟩ hS' hk' E T' _ X' N e'
  exact ⟨s₂, u, L', st _ a1, r⟩
theorem callInitS (K : Cx Z own nm bytes ml ret p (s.setVm vm0) m meth c) (hS : s.Since vm0 k0) (hk : k0 ≤ h.size) {i : Nat} {y : MethodName} {by' : ByteArray} {ml' : Nat} {ret' : Option FieldType} {rm : Room} {Q' : Option Value → Heap → Prop} {b : Addr} {argsL : List Value} (hy1 : y.name = "<init>") (w1 : (Cond.methodLink own i y).before a0 Z = true) (w2 : (Cond.instanceMethod y).before a0 Z = true) (wz : (Cond.initialized y.cls).before a0 Z = true) (wc : (Cond.code y by' ml' none).before a0 Z = true) (hr : ret' = none) (hy : y.cls ≠ "java/lang/invoke/MethodHandle" ∧ y.cls ≠ "java/lang/invoke/VarHandle") (Cc : CtrW l Z y by' ml' ret' [] rm n0 (.ref b :: argsL).toArray h Q') (hlen : ∀ sig, parseMethodDescriptor y.desc = some sig → argsL.length = sig.parameters.length) (hd : decode bytes pc = .ok (.invokespecial i, 3)) (hz : Ls.size = ml) (hf : rm.frames + 1 ≤ R.frames) (hW : (S.map fun v => v.category).sum + (ml' + 11) + rm.locals ≤ R.locals) (hc : ce + rm.cells ≤ R.cells) (hsl : sl + rm.slots ≤ R.slots) {st : List Value} (hst : st = (argsL.reverse ++ .ref b :: S)) (hp : pc + 3 = pc')
    (q : ∀ v (vm1 : Vm) (h' : Heap) (k1 : Nat), Cx Z own nm bytes ml ret p (s.setVm vm1) m meth c → s.Since vm1 k1 → k1 ≤ h'.size → Q' v h' → GoE En p l e R (s.setVm vm1) m args below meth c n0 h' (ce + rm.cells) (sl + rm.slots) (mkF m pc' Ls (v.toList ++ S)) Q) : GoE En p l e R (s.setVm vm0) m args below meth c n0 h ce sl (mkF m pc Ls st) Q := by
  subst hp hst
  intro T L0 X N eT
  subst hr
  obtain ⟨v, _, ⟨T', L1, k1, n1⟩, -, X', h2, hg, ⟨Lc, hQ, l', y', z'⟩, st'⟩ := X.specialBackS K.1 hy1 K.2.2.1 (mvT K.2.1 w1) (mvT K.2.1 w2) (mvT K.2.1 wc) hy (backOfS (Q := fun v h L => Q' v h ∧ Fr n0 L) (W := (S.map fun v => v.category).sum) Cc K.2.1 wc wz hf hW) (g := mkF m pc Ls (argsL.reverse ++ .ref b :: S)) rfl (hz.trans K.2.2.2.2.1.symm) (Steps.refl _) (a := b) (argsL := argsL) (rest := S) hlen rfl (by show 2 * 0 + _ ≤ _; omega) (hb K.2.2.2.1 hd) (fun _ _ => ⟨rfl, eT, hc, hsl⟩)
  dsimp only [Pt.U, Pt.locs, Pt.cells, Pt.slots] at X' h2 hg l' y' z' st'
  subst l' y' z'
  obtain ⟨X2, hS2, hZ2, ho2⟩ := rebS hS (by rw [eT]; exact hk) X' h2 hg K.2.1 K.2.2.1
  obtain ⟨s₂, u, L', a1, r⟩ := q v T'.vm _ _ ⟨K.1, hZ2, ho2, K.2.2.2⟩ hS2 (Nat.le_refl _) hQ.1 T' _ X2 (Fr.app N hQ.2) rfl
  exact ⟨s₂, u, L', st'.trans a1, r⟩
theorem retVS (K : Cx Z own nm bytes ml ret p (s.setVm vm0) m meth c) (hS : s.Since vm0 k0) (hk : k0 ≤ h.size) (hr : ret = none) (hd : decode bytes pc = .ok (.return_, 1)) (hc : ce ≤ R.cells) (hsl : sl ≤ R.slots) (q : Q none h) : GoE (EnW s R) p l e R (s.setVm vm0) m args below meth c n0 h ce sl (mkF m pc Ls []) Q := by
  intro T L0 X N eT
  obtain ⟨fs, hl, hrun, hended, -, hW, hB, hsame⟩ := X.leaveW hS (by rw [eT]; exact hk) (v := none) (fun _ => rfl) K.2.2.2.2.2.2.1
  exact ⟨_, none, L0, X.returnOut K.1 (K.2.2.2.2.2.1.trans hr) (hb K.2.2.2.1 hd) hl, hrun, hended, N, eT ▸ q, ⟨_, rfl⟩, hW, hB, hsame.mono hc hsl⟩
theorem retBS (K : Cx Z own nm bytes ml ret p (s.setVm vm0) m meth c) (hS : s.Since vm0 k0) (hk : k0 ≤ h.size) {z : Int32} (hr : ret = some .boolean) (hn : narrow .boolean (.int z) = .int z) (hd : decode bytes pc = .ok (.ireturn, 1)) (hc : ce ≤ R.cells) (hsl : sl ≤ R.slots) (q : Q (some (.int z)) h) : GoE (EnW s R) p l e R (s.setVm vm0) m args below meth c n0 h ce sl (mkF m pc Ls (.int z :: S)) Q := by
  intro T L0 X N eT
  obtain ⟨fs, hl, hrun, hended, -, hW, hB, hsame⟩ := X.leaveW hS (by rw [eT]; exact hk) (v := some (.int z)) (fun q => by rw [K.2.2.2.2.2.1, hr] at q; cases q) K.2.2.2.2.2.2.1
  exact ⟨_, some (.int z), L0, retOut X K.1 (K.2.2.2.2.2.1.trans hr) hn (Or.inl ⟨rfl, Or.inr (Or.inl rfl), _, rfl⟩) (hb K.2.2.2.1 hd) hl, hrun, hended, N, eT ▸ q, ⟨_, rfl⟩, hW, hB, hsame.mono hc hsl⟩
end Walk
theorem Wr.grew {h h' : Heap} {a : Addr} {sl : Nat} {v : Value} (W : Wr h h' a sl v) : h.size ≤ h'.size := by
  obtain ⟨c0, -, -, -, rfl⟩ := W; simp
theorem ctrW {l : Launch} {Z : State} {y : MethodName} {bytes : ByteArray} {ml : Nat} {ret : Option FieldType} {ws : List Cond} {rm : Room} {n0 : Nat} {as' : Array Value} {h : Heap} {Q : Option Value → Heap → Prop} {own nm : String} (ho : y.cls = own) (hn : y.name = nm) {Ls : Array Slot} (hpl : plainFor y = true) (hef : ∀ m : MethodId, entryFrame m as' ml = mkF m 0 Ls [])
    (body : ∀ (p : Program) (e : Env) (s : State) (m : MethodId) (below : List Frame) (meth : Method) (c : Code) (vm0 : Vm), Cx Z own nm bytes ml ret p (s.setVm vm0) m meth c → s.heap = h → s.Since vm0 0 → GoE (EnW s rm) p l e rm (s.setVm vm0) m as' below meth c n0 h 0 0 (mkF m 0 Ls []) Q) : CtrW l Z y bytes ml ret ws rm n0 as' h Q := by
  subst ho hn
  refine MetFree.of_bodySF hpl hisR ?_
  intro p e s m args below meth c s₁ Bd hml hP hK
  obtain ⟨rfl, hZ, hh⟩ := hP
  have X0 : Stand p l e rm s m _ below meth c s₁ [] 0 0 := Stand.of_body Bd
  have e0 : s₁.heap = h := by rw [← hh, Bd.state]; rfl
  obtain ⟨s₂, v, L', a1, a2, a3, a4, a5, a6⟩ := body p e s m below meth c s.vm ⟨Bd.exec, hZ, findClass_of_methodNamed Bd.named, Bd.bytes, hml, Bd.returns, BodyLoose.notSynchronized Bd, (name_of_methodNamed Bd.named Bd.method).1⟩ hh ((State.WarmedH.refl s).since 0) s₁ [] X0 (Fr.nil n0) e0
  exact ⟨s₂, _, castTop (hef m) a1, a2, a3, v, L', rfl, ⟨a5, a4⟩, a6⟩
end Jvm.OwnWp
namespace Jvm.OwnWp
open Sem ClassFile Op Lib Jvm.Stand Jvm.Free Jvm.LawKit Jvm.RoadKit
section Abs
theorem absDesc : parseMethodDescriptor "(D)D" = some ⟨[.double], some .double⟩ := by decide +kernel
variable {p : Program} {l : Launch} {e : Env} {R : Room} {s : State} {m : MethodId} {args : Array Value} {below : List Frame} {meth : Method} {c : Code} {Z : State} {a0 : Array Value} {own nm : String} {bytes : ByteArray} {ml : Nat} {ret : Option FieldType} {n0 ce sl pc pc' : Nat} {h : Heap} {Ls Ls' : Array Slot} {S : List Value} {Q : Option Value → Heap → Prop} {En : Option Value → State → List Loc → Prop}
theorem callAbs (K : Cx Z own nm bytes ml ret p s m meth c) {i : Nat} {x : UInt64} (w1 : (Cond.methodLink own i Jvm.Free.Fl.Abs.absDN).before a0 Z = true) (w2 : (Cond.static Jvm.Free.Fl.Abs.absDN).before a0 Z = true) (wz : (Cond.initialized "java/lang/Math").before a0 Z = true) (wc : (Cond.code Jvm.Free.Fl.Abs.absDN Jvm.Free.Fl.Abs.absDCode 2 (some .double)).before a0 Z = true) (hx : Jvm.Free.Fl.NoNaN64 x) (hd : decode bytes pc = .ok (.invokestatic i, 3)) (hz : Ls.size = ml) (hf : 1 ≤ R.frames) (hW : (S.map fun v => v.category).sum + 13 ≤ R.locals) (hc : ce ≤ R.cells) (hsl : sl ≤ R.slots) (hp : pc + 3 = pc') (q : GoE En p l e R s m args below meth c n0 h ce sl (mkF m pc' Ls (.double (x &&& 0x7fffffffffffffff) :: S)) Q) : GoE En p l e R s m args below meth c n0 h ce sl (mkF m pc Ls (.double x :: S)) Q := by
  subst hp
  intro T L0 X N eT
  obtain ⟨v, vm1, ⟨T', L1, k1, n1⟩, hw1, X', ⟨hv, hB⟩, st'⟩ := Jvm.LawKit.callS X K.1 K.2.2.1 (mvT K.2.1 w1) (mvT K.2.1 w2) (mvT K.2.1 wz) (mvT K.2.1 wc) (by decide) (Jvm.Free.Fl.Abs.absD_pays (W := (S.map fun v => v.category).sum) x (mvT K.2.1 wc) hf hW) (g := mkF m pc Ls (.double x :: S)) rfl (hz.trans K.2.2.2.2.1.symm) (argsL := [.double x]) (rest := S) (fun sig hs => by cases absDesc.symm.trans hs; rfl) rfl (by show 2 * 0 + _ ≤ _; omega) (hb K.2.2.2.1 hd) (fun _ _ => ⟨hc, hsl, rfl, hx⟩)
  cases hB
  subst hv
  obtain ⟨s₂, u, L', a1, r⟩ := q (T.setVm vm1) _ X' N eT
  exact ⟨s₂, u, L', st' _ a1, r⟩
end Abs
end Jvm.OwnWp
namespace Jvm.Pilot.@@N@@
open Jvm Jvm.ClassFile Sem Op Lib Jvm.Free Jvm.Stand Jvm.LawKit Jvm.RoadKit Bundle Jvm.Pilot.@@N@@.Jvm.D Jvm.OwnWp

theorem d_jdk_117_method_8_0 : decode jdk_117_method_8_code 0 = .ok (.dload_n 0, 1) := by decide +kernel
theorem d_jdk_117_method_8_1 : decode jdk_117_method_8_code 1 = .ok (.invokestatic 38, 3) := by decide +kernel
theorem d_jdk_117_method_8_4 : decode jdk_117_method_8_code 4 = .ok (.ldc2_w 111, 3) := by decide +kernel
theorem d_jdk_117_method_8_7 : decode jdk_117_method_8_code 7 = .ok (.dcmp .g, 1) := by decide +kernel
theorem d_jdk_117_method_8_8 : decode jdk_117_method_8_code 8 = .ok (.ifCond .gt 7, 3) := by decide +kernel
theorem d_jdk_117_method_8_11 : decode jdk_117_method_8_code 11 = .ok (.iconst 1, 1) := by decide +kernel
theorem d_jdk_117_method_8_12 : decode jdk_117_method_8_code 12 = .ok (.goto 4, 3) := by decide +kernel
theorem d_jdk_117_method_8_16 : decode jdk_117_method_8_code 16 = .ok (.ireturn, 1) := by decide +kernel
theorem d_jdk_30_method_1_0 : decode jdk_30_method_1_code 0 = .ok (.aload_n 0, 1) := by decide +kernel
theorem d_jdk_30_method_1_1 : decode jdk_30_method_1_code 1 = .ok (.invokespecial 1, 3) := by decide +kernel
theorem d_jdk_30_method_1_4 : decode jdk_30_method_1_code 4 = .ok (.return_, 1) := by decide +kernel
theorem d_jdk_31_method_11_0 : decode jdk_31_method_11_code 0 = .ok (.aload_n 0, 1) := by decide +kernel
theorem d_jdk_31_method_11_1 : decode jdk_31_method_11_code 1 = .ok (.ifnonnull 12, 3) := by decide +kernel
theorem d_jdk_31_method_11_13 : decode jdk_31_method_11_code 13 = .ok (.aload_n 0, 1) := by decide +kernel
theorem d_jdk_31_method_11_14 : decode jdk_31_method_11_code 14 = .ok (.areturn, 1) := by decide +kernel
theorem d_jdk_42_method_139_0 : decode jdk_42_method_139_code 0 = .ok (.getstatic 38, 3) := by decide +kernel
theorem d_jdk_42_method_139_3 : decode jdk_42_method_139_code 3 = .ok (.ifCond .eq 23, 3) := by decide +kernel
theorem d_jdk_42_method_139_6 : decode jdk_42_method_139_code 6 = .ok (.iload_n 0, 1) := by decide +kernel
theorem d_jdk_42_method_139_7 : decode jdk_42_method_139_code 7 = .ok (.invokestatic 1015, 3) := by decide +kernel
theorem d_jdk_42_method_139_10 : decode jdk_42_method_139_code 10 = .ok (.ifCond .eq 16, 3) := by decide +kernel
theorem d_jdk_42_method_139_13 : decode jdk_42_method_139_code 13 = .ok (.new 10, 3) := by decide +kernel
theorem d_jdk_42_method_139_16 : decode jdk_42_method_139_code 16 = .ok (.dup, 1) := by decide +kernel
theorem d_jdk_42_method_139_17 : decode jdk_42_method_139_code 17 = .ok (.iload_n 0, 1) := by decide +kernel
theorem d_jdk_42_method_139_18 : decode jdk_42_method_139_code 18 = .ok (.invokestatic 1018, 3) := by decide +kernel
theorem d_jdk_42_method_139_21 : decode jdk_42_method_139_code 21 = .ok (.iconst 0, 1) := by decide +kernel
theorem d_jdk_42_method_139_22 : decode jdk_42_method_139_code 22 = .ok (.invokespecial 209, 3) := by decide +kernel
theorem d_jdk_42_method_139_25 : decode jdk_42_method_139_code 25 = .ok (.areturn, 1) := by decide +kernel
theorem d_jdk_42_method_151_0 : decode jdk_42_method_151_code 0 = .ok (.aload_n 0, 1) := by decide +kernel
theorem d_jdk_42_method_151_1 : decode jdk_42_method_151_code 1 = .ok (.invokespecial 1, 3) := by decide +kernel
theorem d_jdk_42_method_151_4 : decode jdk_42_method_151_code 4 = .ok (.aload_n 0, 1) := by decide +kernel
theorem d_jdk_42_method_151_5 : decode jdk_42_method_151_code 5 = .ok (.aload_n 1, 1) := by decide +kernel
theorem d_jdk_42_method_151_6 : decode jdk_42_method_151_code 6 = .ok (.putfield 9, 3) := by decide +kernel
theorem d_jdk_42_method_151_9 : decode jdk_42_method_151_code 9 = .ok (.aload_n 0, 1) := by decide +kernel
theorem d_jdk_42_method_151_10 : decode jdk_42_method_151_code 10 = .ok (.iload_n 2, 1) := by decide +kernel
theorem d_jdk_42_method_151_11 : decode jdk_42_method_151_code 11 = .ok (.putfield 15, 3) := by decide +kernel
theorem d_jdk_42_method_151_14 : decode jdk_42_method_151_code 14 = .ok (.return_, 1) := by decide +kernel
theorem d_jdk_43_method_3_0 : decode jdk_43_method_3_code 0 = .ok (.iload_n 0, 1) := by decide +kernel
theorem d_jdk_43_method_3_1 : decode jdk_43_method_3_code 1 = .ok (.sipush 255, 3) := by decide +kernel
theorem d_jdk_43_method_3_4 : decode jdk_43_method_3_code 4 = .ok (.if_icmp .gt 7, 3) := by decide +kernel
theorem d_jdk_43_method_3_7 : decode jdk_43_method_3_code 7 = .ok (.iconst 1, 1) := by decide +kernel
theorem d_jdk_43_method_3_8 : decode jdk_43_method_3_code 8 = .ok (.goto 4, 3) := by decide +kernel
theorem d_jdk_43_method_3_12 : decode jdk_43_method_3_code 12 = .ok (.ireturn, 1) := by decide +kernel
theorem d_jdk_43_method_46_0 : decode jdk_43_method_46_code 0 = .ok (.iconst 1, 1) := by decide +kernel
theorem d_jdk_43_method_46_1 : decode jdk_43_method_46_code 1 = .ok (.newarray .byte, 2) := by decide +kernel
theorem d_jdk_43_method_46_3 : decode jdk_43_method_46_code 3 = .ok (.dup, 1) := by decide +kernel
theorem d_jdk_43_method_46_4 : decode jdk_43_method_46_code 4 = .ok (.iconst 0, 1) := by decide +kernel
theorem d_jdk_43_method_46_5 : decode jdk_43_method_46_code 5 = .ok (.iload_n 0, 1) := by decide +kernel
theorem d_jdk_43_method_46_6 : decode jdk_43_method_46_code 6 = .ok (.i2b, 1) := by decide +kernel
theorem d_jdk_43_method_46_7 : decode jdk_43_method_46_code 7 = .ok (.bastore, 1) := by decide +kernel
theorem d_jdk_43_method_46_8 : decode jdk_43_method_46_code 8 = .ok (.areturn, 1) := by decide +kernel
theorem d_prog_13_method_15_0 : decode prog_13_method_15_code 0 = .ok (.aload_n 0, 1) := by decide +kernel
theorem d_prog_13_method_15_1 : decode prog_13_method_15_code 1 = .ok (.getfield 72, 3) := by decide +kernel
theorem d_prog_13_method_15_4 : decode prog_13_method_15_code 4 = .ok (.dreturn, 1) := by decide +kernel
theorem d_prog_13_method_1_0 : decode prog_13_method_1_code 0 = .ok (.aload_n 0, 1) := by decide +kernel
theorem d_prog_13_method_1_1 : decode prog_13_method_1_code 1 = .ok (.invokespecial 1, 3) := by decide +kernel
theorem d_prog_13_method_1_4 : decode prog_13_method_1_code 4 = .ok (.aload_n 1, 1) := by decide +kernel
theorem d_prog_13_method_1_5 : decode prog_13_method_1_code 5 = .ok (.ldc 7, 2) := by decide +kernel
theorem d_prog_13_method_1_7 : decode prog_13_method_1_code 7 = .ok (.invokestatic 9, 3) := by decide +kernel
theorem d_prog_13_method_1_10 : decode prog_13_method_1_code 10 = .ok (.pop, 1) := by decide +kernel
theorem d_prog_13_method_1_11 : decode prog_13_method_1_code 11 = .ok (.aload_n 2, 1) := by decide +kernel
theorem d_prog_13_method_1_12 : decode prog_13_method_1_code 12 = .ok (.ldc 15, 2) := by decide +kernel
theorem d_prog_13_method_1_14 : decode prog_13_method_1_code 14 = .ok (.invokestatic 9, 3) := by decide +kernel
theorem d_prog_13_method_1_17 : decode prog_13_method_1_code 17 = .ok (.pop, 1) := by decide +kernel
theorem d_prog_13_method_1_18 : decode prog_13_method_1_code 18 = .ok (.aload_n 3, 1) := by decide +kernel
theorem d_prog_13_method_1_19 : decode prog_13_method_1_code 19 = .ok (.ldc 17, 2) := by decide +kernel
theorem d_prog_13_method_1_21 : decode prog_13_method_1_code 21 = .ok (.invokestatic 9, 3) := by decide +kernel
theorem d_prog_13_method_1_24 : decode prog_13_method_1_code 24 = .ok (.pop, 1) := by decide +kernel
theorem d_prog_13_method_1_25 : decode prog_13_method_1_code 25 = .ok (.dload 4, 2) := by decide +kernel
theorem d_prog_13_method_1_27 : decode prog_13_method_1_code 27 = .ok (.invokestatic 19, 3) := by decide +kernel
theorem d_prog_13_method_1_30 : decode prog_13_method_1_code 30 = .ok (.ifCond .eq 10, 3) := by decide +kernel
theorem d_prog_13_method_1_33 : decode prog_13_method_1_code 33 = .ok (.dload 4, 2) := by decide +kernel
theorem d_prog_13_method_1_35 : decode prog_13_method_1_code 35 = .ok (.dconst 0, 1) := by decide +kernel
theorem d_prog_13_method_1_36 : decode prog_13_method_1_code 36 = .ok (.dcmp .g, 1) := by decide +kernel
theorem d_prog_13_method_1_37 : decode prog_13_method_1_code 37 = .ok (.ifCond .ge 17, 3) := by decide +kernel
theorem d_prog_13_method_1_54 : decode prog_13_method_1_code 54 = .ok (.iload 6, 2) := by decide +kernel
theorem d_prog_13_method_1_56 : decode prog_13_method_1_code 56 = .ok (.iconst 1, 1) := by decide +kernel
theorem d_prog_13_method_1_57 : decode prog_13_method_1_code 57 = .ok (.if_icmp .ge 17, 3) := by decide +kernel
theorem d_prog_13_method_1_74 : decode prog_13_method_1_code 74 = .ok (.dload 7, 2) := by decide +kernel
theorem d_prog_13_method_1_76 : decode prog_13_method_1_code 76 = .ok (.invokestatic 19, 3) := by decide +kernel
theorem d_prog_13_method_1_79 : decode prog_13_method_1_code 79 = .ok (.ifCond .eq 10, 3) := by decide +kernel
theorem d_prog_13_method_1_82 : decode prog_13_method_1_code 82 = .ok (.dload 7, 2) := by decide +kernel
theorem d_prog_13_method_1_84 : decode prog_13_method_1_code 84 = .ok (.dconst 0, 1) := by decide +kernel
theorem d_prog_13_method_1_85 : decode prog_13_method_1_code 85 = .ok (.dcmp .g, 1) := by decide +kernel
theorem d_prog_13_method_1_86 : decode prog_13_method_1_code 86 = .ok (.ifCond .gt 17, 3) := by decide +kernel
theorem d_prog_13_method_1_103 : decode prog_13_method_1_code 103 = .ok (.dload 9, 2) := by decide +kernel
theorem d_prog_13_method_1_105 : decode prog_13_method_1_code 105 = .ok (.invokestatic 19, 3) := by decide +kernel
theorem d_prog_13_method_1_108 : decode prog_13_method_1_code 108 = .ok (.ifCond .eq 10, 3) := by decide +kernel
theorem d_prog_13_method_1_111 : decode prog_13_method_1_code 111 = .ok (.dload 9, 2) := by decide +kernel
theorem d_prog_13_method_1_113 : decode prog_13_method_1_code 113 = .ok (.dconst 0, 1) := by decide +kernel
theorem d_prog_13_method_1_114 : decode prog_13_method_1_code 114 = .ok (.dcmp .g, 1) := by decide +kernel
theorem d_prog_13_method_1_115 : decode prog_13_method_1_code 115 = .ok (.ifCond .gt 17, 3) := by decide +kernel
theorem d_prog_13_method_1_132 : decode prog_13_method_1_code 132 = .ok (.aload_n 0, 1) := by decide +kernel
theorem d_prog_13_method_1_133 : decode prog_13_method_1_code 133 = .ok (.aload_n 1, 1) := by decide +kernel
theorem d_prog_13_method_1_134 : decode prog_13_method_1_code 134 = .ok (.putfield 56, 3) := by decide +kernel
theorem d_prog_13_method_1_137 : decode prog_13_method_1_code 137 = .ok (.aload_n 0, 1) := by decide +kernel
theorem d_prog_13_method_1_138 : decode prog_13_method_1_code 138 = .ok (.aload_n 2, 1) := by decide +kernel
theorem d_prog_13_method_1_139 : decode prog_13_method_1_code 139 = .ok (.putfield 59, 3) := by decide +kernel
theorem d_prog_13_method_1_142 : decode prog_13_method_1_code 142 = .ok (.aload_n 0, 1) := by decide +kernel
theorem d_prog_13_method_1_143 : decode prog_13_method_1_code 143 = .ok (.aload_n 3, 1) := by decide +kernel
theorem d_prog_13_method_1_144 : decode prog_13_method_1_code 144 = .ok (.putfield 61, 3) := by decide +kernel
theorem d_prog_13_method_1_147 : decode prog_13_method_1_code 147 = .ok (.aload_n 0, 1) := by decide +kernel
theorem d_prog_13_method_1_148 : decode prog_13_method_1_code 148 = .ok (.dload 4, 2) := by decide +kernel
theorem d_prog_13_method_1_150 : decode prog_13_method_1_code 150 = .ok (.putfield 63, 3) := by decide +kernel
theorem d_prog_13_method_1_153 : decode prog_13_method_1_code 153 = .ok (.aload_n 0, 1) := by decide +kernel
theorem d_prog_13_method_1_154 : decode prog_13_method_1_code 154 = .ok (.iload 6, 2) := by decide +kernel
theorem d_prog_13_method_1_156 : decode prog_13_method_1_code 156 = .ok (.putfield 66, 3) := by decide +kernel
theorem d_prog_13_method_1_159 : decode prog_13_method_1_code 159 = .ok (.aload_n 0, 1) := by decide +kernel
theorem d_prog_13_method_1_160 : decode prog_13_method_1_code 160 = .ok (.dload 7, 2) := by decide +kernel
theorem d_prog_13_method_1_162 : decode prog_13_method_1_code 162 = .ok (.putfield 69, 3) := by decide +kernel
theorem d_prog_13_method_1_165 : decode prog_13_method_1_code 165 = .ok (.aload_n 0, 1) := by decide +kernel
theorem d_prog_13_method_1_166 : decode prog_13_method_1_code 166 = .ok (.dload 9, 2) := by decide +kernel
theorem d_prog_13_method_1_168 : decode prog_13_method_1_code 168 = .ok (.putfield 72, 3) := by decide +kernel
theorem d_prog_13_method_1_171 : decode prog_13_method_1_code 171 = .ok (.return_, 1) := by decide +kernel
theorem d_prog_13_method_3_0 : decode prog_13_method_3_code 0 = .ok (.aload_n 0, 1) := by decide +kernel
theorem d_prog_13_method_3_1 : decode prog_13_method_3_code 1 = .ok (.invokevirtual 75, 3) := by decide +kernel
theorem d_prog_13_method_3_4 : decode prog_13_method_3_code 4 = .ok (.getstatic 78, 3) := by decide +kernel
theorem d_prog_13_method_3_7 : decode prog_13_method_3_code 7 = .ok (.invokevirtual 84, 3) := by decide +kernel
theorem d_prog_13_method_3_10 : decode prog_13_method_3_code 10 = .ok (.ddiv, 1) := by decide +kernel
theorem d_prog_13_method_3_11 : decode prog_13_method_3_code 11 = .ok (.dreturn, 1) := by decide +kernel
theorem d_prog_19_method_7_0 : decode prog_19_method_7_code 0 = .ok (.aload_n 0, 1) := by decide +kernel
theorem d_prog_19_method_7_1 : decode prog_19_method_7_code 1 = .ok (.getfield 32, 3) := by decide +kernel
theorem d_prog_19_method_7_4 : decode prog_19_method_7_code 4 = .ok (.dreturn, 1) := by decide +kernel
theorem wd0 {a0 : Array Value} {Z : State} (hw : ∀ d ∈ tables_1, d.before a0 Z = true) : Jvm.Cond.before (Jvm.Cond.methodLink "com/example/errand_queue/errandqueue/network/LinkOutflowPerSecondPinLaw" (7 : Nat) ({ cls := "java/lang/String", name := "valueOf", desc := "(C)Ljava/lang/String;" } : Jvm.MethodName)) a0 Z = true := hw _ (List.mem_of_getElem? (i := 0) rfl)
theorem wd1 {a0 : Array Value} {Z : State} (hw : ∀ d ∈ tables_1, d.before a0 Z = true) : Jvm.Cond.before (Jvm.Cond.static ({ cls := "java/lang/String", name := "valueOf", desc := "(C)Ljava/lang/String;" } : Jvm.MethodName)) a0 Z = true := hw _ (List.mem_of_getElem? (i := 1) rfl)
theorem wd2 {a0 : Array Value} {Z : State} (hw : ∀ d ∈ tables_1, d.before a0 Z = true) : Jvm.Cond.before (Jvm.Cond.initialized "java/lang/String") a0 Z = true := hw _ (List.mem_of_getElem? (i := 2) rfl)
theorem wd3 {a0 : Array Value} {Z : State} (hw : ∀ d ∈ tables_1, d.before a0 Z = true) : Jvm.Cond.before (Jvm.Cond.code ({ cls := "java/lang/String", name := "valueOf", desc := "(C)Ljava/lang/String;" } : Jvm.MethodName) jdk_42_method_139_code (1 : Nat) (Option.some (Jvm.ClassFile.FieldType.object "java/lang/String"))) a0 Z = true := hw _ (List.mem_of_getElem? (i := 3) rfl)
theorem wd4 {a0 : Array Value} {Z : State} (hw : ∀ d ∈ tables_1, d.before a0 Z = true) : Jvm.Cond.before (Jvm.Cond.fieldLink "java/lang/String" (38 : Nat) "java/lang/String" "COMPACT_STRINGS" "Z") a0 Z = true := hw _ (List.mem_of_getElem? (i := 4) rfl)
theorem wd5 {a0 : Array Value} {Z : State} (hw : ∀ d ∈ tables_1, d.before a0 Z = true) : Jvm.Cond.before (Jvm.Cond.methodLink "java/lang/String" (1015 : Nat) ({ cls := "java/lang/StringLatin1", name := "canEncode", desc := "(C)Z" } : Jvm.MethodName)) a0 Z = true := hw _ (List.mem_of_getElem? (i := 5) rfl)
theorem wd6 {a0 : Array Value} {Z : State} (hw : ∀ d ∈ tables_1, d.before a0 Z = true) : Jvm.Cond.before (Jvm.Cond.static ({ cls := "java/lang/StringLatin1", name := "canEncode", desc := "(C)Z" } : Jvm.MethodName)) a0 Z = true := hw _ (List.mem_of_getElem? (i := 6) rfl)
theorem wd7 {a0 : Array Value} {Z : State} (hw : ∀ d ∈ tables_1, d.before a0 Z = true) : Jvm.Cond.before (Jvm.Cond.initialized "java/lang/StringLatin1") a0 Z = true := hw _ (List.mem_of_getElem? (i := 7) rfl)
theorem wd8 {a0 : Array Value} {Z : State} (hw : ∀ d ∈ tables_1, d.before a0 Z = true) : Jvm.Cond.before (Jvm.Cond.code ({ cls := "java/lang/StringLatin1", name := "canEncode", desc := "(C)Z" } : Jvm.MethodName) jdk_43_method_3_code (1 : Nat) (Option.some Jvm.ClassFile.FieldType.boolean)) a0 Z = true := hw _ (List.mem_of_getElem? (i := 8) rfl)
theorem wd9 {a0 : Array Value} {Z : State} (hw : ∀ d ∈ tables_1, d.before a0 Z = true) : Jvm.Cond.before (Jvm.Cond.classLink "java/lang/String" (10 : Nat) "java/lang/String") a0 Z = true := hw _ (List.mem_of_getElem? (i := 9) rfl)
theorem wd10 {a0 : Array Value} {Z : State} (hw : ∀ d ∈ tables_1, d.before a0 Z = true) : Jvm.Cond.before (Jvm.Cond.instantiable "java/lang/String" (4 : Nat)) a0 Z = true := hw _ (List.mem_of_getElem? (i := 10) rfl)
theorem wd11 {a0 : Array Value} {Z : State} (hw : ∀ d ∈ tables_1, d.before a0 Z = true) : Jvm.Cond.before (Jvm.Cond.methodLink "java/lang/String" (1018 : Nat) ({ cls := "java/lang/StringLatin1", name := "toBytes", desc := "(C)[B" } : Jvm.MethodName)) a0 Z = true := hw _ (List.mem_of_getElem? (i := 11) rfl)
theorem wd12 {a0 : Array Value} {Z : State} (hw : ∀ d ∈ tables_1, d.before a0 Z = true) : Jvm.Cond.before (Jvm.Cond.static ({ cls := "java/lang/StringLatin1", name := "toBytes", desc := "(C)[B" } : Jvm.MethodName)) a0 Z = true := hw _ (List.mem_of_getElem? (i := 12) rfl)
theorem wd13 {a0 : Array Value} {Z : State} (hw : ∀ d ∈ tables_1, d.before a0 Z = true) : Jvm.Cond.before (Jvm.Cond.code ({ cls := "java/lang/StringLatin1", name := "toBytes", desc := "(C)[B" } : Jvm.MethodName) jdk_43_method_46_code (1 : Nat) (Option.some (Jvm.ClassFile.FieldType.array Jvm.ClassFile.FieldType.byte))) a0 Z = true := hw _ (List.mem_of_getElem? (i := 13) rfl)
theorem wd14 {a0 : Array Value} {Z : State} (hw : ∀ d ∈ tables_1, d.before a0 Z = true) : Jvm.Cond.before (Jvm.Cond.arrayClass Jvm.ClassFile.FieldType.byte) a0 Z = true := hw _ (List.mem_of_getElem? (i := 14) rfl)
theorem wd15 {a0 : Array Value} {Z : State} (hw : ∀ d ∈ tables_1, d.before a0 Z = true) : Jvm.Cond.before (Jvm.Cond.methodLink "java/lang/String" (209 : Nat) ({ cls := "java/lang/String", name := "<init>", desc := "([BB)V" } : Jvm.MethodName)) a0 Z = true := hw _ (List.mem_of_getElem? (i := 15) rfl)
theorem wd16 {a0 : Array Value} {Z : State} (hw : ∀ d ∈ tables_1, d.before a0 Z = true) : Jvm.Cond.before (Jvm.Cond.instanceMethod ({ cls := "java/lang/String", name := "<init>", desc := "([BB)V" } : Jvm.MethodName)) a0 Z = true := hw _ (List.mem_of_getElem? (i := 16) rfl)
theorem wd18 {a0 : Array Value} {Z : State} (hw : ∀ d ∈ tables_1, d.before a0 Z = true) : Jvm.Cond.before (Jvm.Cond.code ({ cls := "java/lang/String", name := "<init>", desc := "([BB)V" } : Jvm.MethodName) jdk_42_method_151_code (3 : Nat) (Option.none : Option Jvm.ClassFile.FieldType)) a0 Z = true := hw _ (List.mem_of_getElem? (i := 18) rfl)
theorem wd19 {a0 : Array Value} {Z : State} (hw : ∀ d ∈ tables_1, d.before a0 Z = true) : Jvm.Cond.before (Jvm.Cond.methodLink "java/lang/String" (1 : Nat) ({ cls := "java/lang/Object", name := "<init>", desc := "()V" } : Jvm.MethodName)) a0 Z = true := hw _ (List.mem_of_getElem? (i := 19) rfl)
theorem wd20 {a0 : Array Value} {Z : State} (hw : ∀ d ∈ tables_1, d.before a0 Z = true) : Jvm.Cond.before (Jvm.Cond.instanceMethod ({ cls := "java/lang/Object", name := "<init>", desc := "()V" } : Jvm.MethodName)) a0 Z = true := hw _ (List.mem_of_getElem? (i := 20) rfl)
theorem wd21 {a0 : Array Value} {Z : State} (hw : ∀ d ∈ tables_1, d.before a0 Z = true) : Jvm.Cond.before (Jvm.Cond.code ({ cls := "java/lang/Object", name := "<init>", desc := "()V" } : Jvm.MethodName) object_method_1_code (1 : Nat) (Option.none : Option Jvm.ClassFile.FieldType)) a0 Z = true := hw _ (List.mem_of_getElem? (i := 21) rfl)
theorem wd22 {a0 : Array Value} {Z : State} (hw : ∀ d ∈ tables_1, d.before a0 Z = true) : Jvm.Cond.before (Jvm.Cond.fieldLink "java/lang/String" (9 : Nat) "java/lang/String" "value" "[B") a0 Z = true := hw _ (List.mem_of_getElem? (i := 22) rfl)
theorem wd23 {a0 : Array Value} {Z : State} (hw : ∀ d ∈ tables_1, d.before a0 Z = true) : Jvm.Cond.before (Jvm.Cond.laysFinal "java/lang/String" "java/lang/String" "value" "[B") a0 Z = true := hw _ (List.mem_of_getElem? (i := 23) rfl)
theorem wd24 {a0 : Array Value} {Z : State} (hw : ∀ d ∈ tables_1, d.before a0 Z = true) : Jvm.Cond.before (Jvm.Cond.fieldLink "java/lang/String" (15 : Nat) "java/lang/String" "coder" "B") a0 Z = true := hw _ (List.mem_of_getElem? (i := 24) rfl)
theorem wd25 {a0 : Array Value} {Z : State} (hw : ∀ d ∈ tables_1, d.before a0 Z = true) : Jvm.Cond.before (Jvm.Cond.laysFinal "java/lang/String" "java/lang/String" "coder" "B") a0 Z = true := hw _ (List.mem_of_getElem? (i := 25) rfl)
theorem wd26 {a0 : Array Value} {Z : State} (hw : ∀ d ∈ tables_1, d.before a0 Z = true) : Jvm.Cond.before (Jvm.Cond.constant "com/example/errand_queue/errandqueue/network/LinkOutflowPerSecondPinLaw" (13 : Nat) (1048575 : Int32)) a0 Z = true := hw _ (List.mem_of_getElem? (i := 26) rfl)
theorem wd27 {a0 : Array Value} {Z : State} (hw : ∀ d ∈ tables_1, d.before a0 Z = true) : Jvm.Cond.before (Jvm.Cond.constant "com/example/errand_queue/errandqueue/network/LinkOutflowPerSecondPinLaw" (14 : Nat) (65535 : Int32)) a0 Z = true := hw _ (List.mem_of_getElem? (i := 27) rfl)
theorem wd28 {a0 : Array Value} {Z : State} (hw : ∀ d ∈ tables_1, d.before a0 Z = true) : Jvm.Cond.before (Jvm.Cond.constantDouble "com/example/errand_queue/errandqueue/network/LinkOutflowPerSecondPinLaw" (15 : Nat) (4616189618054758400 : UInt64)) a0 Z = true := hw _ (List.mem_of_getElem? (i := 28) rfl)
theorem wd29 {a0 : Array Value} {Z : State} (hw : ∀ d ∈ tables_1, d.before a0 Z = true) : Jvm.Cond.before (Jvm.Cond.constant "com/example/errand_queue/errandqueue/network/LinkOutflowPerSecondPinLaw" (17 : Nat) (1073741823 : Int32)) a0 Z = true := hw _ (List.mem_of_getElem? (i := 29) rfl)
theorem wd30 {a0 : Array Value} {Z : State} (hw : ∀ d ∈ tables_1, d.before a0 Z = true) : Jvm.Cond.before (Jvm.Cond.classLink "com/example/errand_queue/errandqueue/network/LinkOutflowPerSecondPinLaw" (18 : Nat) "com/example/errand_queue/errandqueue/network/Link") a0 Z = true := hw _ (List.mem_of_getElem? (i := 30) rfl)
theorem wd31 {a0 : Array Value} {Z : State} (hw : ∀ d ∈ tables_1, d.before a0 Z = true) : Jvm.Cond.before (Jvm.Cond.instantiable "com/example/errand_queue/errandqueue/network/Link" (7 : Nat)) a0 Z = true := hw _ (List.mem_of_getElem? (i := 31) rfl)
theorem wd32 {a0 : Array Value} {Z : State} (hw : ∀ d ∈ tables_1, d.before a0 Z = true) : Jvm.Cond.before (Jvm.Cond.initialized "com/example/errand_queue/errandqueue/network/Link") a0 Z = true := hw _ (List.mem_of_getElem? (i := 32) rfl)
theorem wd33 {a0 : Array Value} {Z : State} (hw : ∀ d ∈ tables_1, d.before a0 Z = true) : Jvm.Cond.before (Jvm.Cond.methodLink "com/example/errand_queue/errandqueue/network/LinkOutflowPerSecondPinLaw" (20 : Nat) ({ cls := "com/example/errand_queue/errandqueue/network/Link", name := "<init>", desc := "(Ljava/lang/String;Ljava/lang/String;Ljava/lang/String;DIDD)V" } : Jvm.MethodName)) a0 Z = true := hw _ (List.mem_of_getElem? (i := 33) rfl)
theorem wd34 {a0 : Array Value} {Z : State} (hw : ∀ d ∈ tables_1, d.before a0 Z = true) : Jvm.Cond.before (Jvm.Cond.instanceMethod ({ cls := "com/example/errand_queue/errandqueue/network/Link", name := "<init>", desc := "(Ljava/lang/String;Ljava/lang/String;Ljava/lang/String;DIDD)V" } : Jvm.MethodName)) a0 Z = true := hw _ (List.mem_of_getElem? (i := 34) rfl)
theorem wd35 {a0 : Array Value} {Z : State} (hw : ∀ d ∈ tables_1, d.before a0 Z = true) : Jvm.Cond.before (Jvm.Cond.code ({ cls := "com/example/errand_queue/errandqueue/network/Link", name := "<init>", desc := "(Ljava/lang/String;Ljava/lang/String;Ljava/lang/String;DIDD)V" } : Jvm.MethodName) prog_13_method_1_code (11 : Nat) (Option.none : Option Jvm.ClassFile.FieldType)) a0 Z = true := hw _ (List.mem_of_getElem? (i := 35) rfl)
theorem wd36 {a0 : Array Value} {Z : State} (hw : ∀ d ∈ tables_1, d.before a0 Z = true) : Jvm.Cond.before (Jvm.Cond.methodLink "com/example/errand_queue/errandqueue/network/Link" (1 : Nat) ({ cls := "java/lang/Record", name := "<init>", desc := "()V" } : Jvm.MethodName)) a0 Z = true := hw _ (List.mem_of_getElem? (i := 36) rfl)
theorem wd37 {a0 : Array Value} {Z : State} (hw : ∀ d ∈ tables_1, d.before a0 Z = true) : Jvm.Cond.before (Jvm.Cond.instanceMethod ({ cls := "java/lang/Record", name := "<init>", desc := "()V" } : Jvm.MethodName)) a0 Z = true := hw _ (List.mem_of_getElem? (i := 37) rfl)
theorem wd39 {a0 : Array Value} {Z : State} (hw : ∀ d ∈ tables_1, d.before a0 Z = true) : Jvm.Cond.before (Jvm.Cond.initialized "java/lang/Record") a0 Z = true := hw _ (List.mem_of_getElem? (i := 39) rfl)
theorem wd40 {a0 : Array Value} {Z : State} (hw : ∀ d ∈ tables_1, d.before a0 Z = true) : Jvm.Cond.before (Jvm.Cond.code ({ cls := "java/lang/Record", name := "<init>", desc := "()V" } : Jvm.MethodName) jdk_30_method_1_code (1 : Nat) (Option.none : Option Jvm.ClassFile.FieldType)) a0 Z = true := hw _ (List.mem_of_getElem? (i := 40) rfl)
theorem wd41 {a0 : Array Value} {Z : State} (hw : ∀ d ∈ tables_1, d.before a0 Z = true) : Jvm.Cond.before (Jvm.Cond.methodLink "java/lang/Record" (1 : Nat) ({ cls := "java/lang/Object", name := "<init>", desc := "()V" } : Jvm.MethodName)) a0 Z = true := hw _ (List.mem_of_getElem? (i := 41) rfl)
theorem wd42 {a0 : Array Value} {Z : State} (hw : ∀ d ∈ tables_1, d.before a0 Z = true) : Jvm.Cond.before (Jvm.Cond.stringLink "com/example/errand_queue/errandqueue/network/Link" (7 : Nat) "id") a0 Z = true := hw _ (List.mem_of_getElem? (i := 42) rfl)
theorem wd43 {a0 : Array Value} {Z : State} (hw : ∀ d ∈ tables_1, d.before a0 Z = true) : Jvm.Cond.before (Jvm.Cond.soleField "java/lang/String" "value") a0 Z = true := hw _ (List.mem_of_getElem? (i := 43) rfl)
theorem wd44 {a0 : Array Value} {Z : State} (hw : ∀ d ∈ tables_1, d.before a0 Z = true) : Jvm.Cond.before (Jvm.Cond.soleField "java/lang/String" "coder") a0 Z = true := hw _ (List.mem_of_getElem? (i := 44) rfl)
theorem wd45 {a0 : Array Value} {Z : State} (hw : ∀ d ∈ tables_1, d.before a0 Z = true) : Jvm.Cond.before (Jvm.Cond.methodLink "com/example/errand_queue/errandqueue/network/Link" (9 : Nat) ({ cls := "java/util/Objects", name := "requireNonNull", desc := "(Ljava/lang/Object;Ljava/lang/String;)Ljava/lang/Object;" } : Jvm.MethodName)) a0 Z = true := hw _ (List.mem_of_getElem? (i := 45) rfl)
theorem wd46 {a0 : Array Value} {Z : State} (hw : ∀ d ∈ tables_1, d.before a0 Z = true) : Jvm.Cond.before (Jvm.Cond.static ({ cls := "java/util/Objects", name := "requireNonNull", desc := "(Ljava/lang/Object;Ljava/lang/String;)Ljava/lang/Object;" } : Jvm.MethodName)) a0 Z = true := hw _ (List.mem_of_getElem? (i := 46) rfl)
theorem wd47 {a0 : Array Value} {Z : State} (hw : ∀ d ∈ tables_1, d.before a0 Z = true) : Jvm.Cond.before (Jvm.Cond.initialized "java/util/Objects") a0 Z = true := hw _ (List.mem_of_getElem? (i := 47) rfl)
theorem wd48 {a0 : Array Value} {Z : State} (hw : ∀ d ∈ tables_1, d.before a0 Z = true) : Jvm.Cond.before (Jvm.Cond.code ({ cls := "java/util/Objects", name := "requireNonNull", desc := "(Ljava/lang/Object;Ljava/lang/String;)Ljava/lang/Object;" } : Jvm.MethodName) jdk_31_method_11_code (2 : Nat) (Option.some (Jvm.ClassFile.FieldType.object "java/lang/Object"))) a0 Z = true := hw _ (List.mem_of_getElem? (i := 48) rfl)
theorem wd49 {a0 : Array Value} {Z : State} (hw : ∀ d ∈ tables_1, d.before a0 Z = true) : Jvm.Cond.before (Jvm.Cond.stringLink "com/example/errand_queue/errandqueue/network/Link" (15 : Nat) "fromNodeId") a0 Z = true := hw _ (List.mem_of_getElem? (i := 49) rfl)
theorem wd50 {a0 : Array Value} {Z : State} (hw : ∀ d ∈ tables_1, d.before a0 Z = true) : Jvm.Cond.before (Jvm.Cond.stringLink "com/example/errand_queue/errandqueue/network/Link" (17 : Nat) "toNodeId") a0 Z = true := hw _ (List.mem_of_getElem? (i := 50) rfl)
theorem wd51 {a0 : Array Value} {Z : State} (hw : ∀ d ∈ tables_1, d.before a0 Z = true) : Jvm.Cond.before (Jvm.Cond.methodLink "com/example/errand_queue/errandqueue/network/Link" (19 : Nat) ({ cls := "java/lang/Double", name := "isFinite", desc := "(D)Z" } : Jvm.MethodName)) a0 Z = true := hw _ (List.mem_of_getElem? (i := 51) rfl)
theorem wd52 {a0 : Array Value} {Z : State} (hw : ∀ d ∈ tables_1, d.before a0 Z = true) : Jvm.Cond.before (Jvm.Cond.static ({ cls := "java/lang/Double", name := "isFinite", desc := "(D)Z" } : Jvm.MethodName)) a0 Z = true := hw _ (List.mem_of_getElem? (i := 52) rfl)
theorem wd53 {a0 : Array Value} {Z : State} (hw : ∀ d ∈ tables_1, d.before a0 Z = true) : Jvm.Cond.before (Jvm.Cond.initialized "java/lang/Double") a0 Z = true := hw _ (List.mem_of_getElem? (i := 53) rfl)
theorem wd54 {a0 : Array Value} {Z : State} (hw : ∀ d ∈ tables_1, d.before a0 Z = true) : Jvm.Cond.before (Jvm.Cond.code ({ cls := "java/lang/Double", name := "isFinite", desc := "(D)Z" } : Jvm.MethodName) jdk_117_method_8_code (2 : Nat) (Option.some Jvm.ClassFile.FieldType.boolean)) a0 Z = true := hw _ (List.mem_of_getElem? (i := 54) rfl)
theorem wd55 {a0 : Array Value} {Z : State} (hw : ∀ d ∈ tables_1, d.before a0 Z = true) : Jvm.Cond.before (Jvm.Cond.methodLink "java/lang/Double" (38 : Nat) ({ cls := "java/lang/Math", name := "abs", desc := "(D)D" } : Jvm.MethodName)) a0 Z = true := hw _ (List.mem_of_getElem? (i := 55) rfl)
theorem wd56 {a0 : Array Value} {Z : State} (hw : ∀ d ∈ tables_1, d.before a0 Z = true) : Jvm.Cond.before (Jvm.Cond.static ({ cls := "java/lang/Math", name := "abs", desc := "(D)D" } : Jvm.MethodName)) a0 Z = true := hw _ (List.mem_of_getElem? (i := 56) rfl)
theorem wd57 {a0 : Array Value} {Z : State} (hw : ∀ d ∈ tables_1, d.before a0 Z = true) : Jvm.Cond.before (Jvm.Cond.initialized "java/lang/Math") a0 Z = true := hw _ (List.mem_of_getElem? (i := 57) rfl)
theorem wd58 {a0 : Array Value} {Z : State} (hw : ∀ d ∈ tables_1, d.before a0 Z = true) : Jvm.Cond.before (Jvm.Cond.code ({ cls := "java/lang/Math", name := "abs", desc := "(D)D" } : Jvm.MethodName) jdk_29_method_64_code (2 : Nat) (Option.some Jvm.ClassFile.FieldType.double)) a0 Z = true := hw _ (List.mem_of_getElem? (i := 58) rfl)
theorem wd59 {a0 : Array Value} {Z : State} (hw : ∀ d ∈ tables_1, d.before a0 Z = true) : Jvm.Cond.before (Jvm.Cond.constantDouble "java/lang/Double" (111 : Nat) (9218868437227405311 : UInt64)) a0 Z = true := hw _ (List.mem_of_getElem? (i := 59) rfl)
theorem wd60 {a0 : Array Value} {Z : State} (hw : ∀ d ∈ tables_1, d.before a0 Z = true) : Jvm.Cond.before (Jvm.Cond.fieldLink "com/example/errand_queue/errandqueue/network/Link" (56 : Nat) "com/example/errand_queue/errandqueue/network/Link" "id" "Ljava/lang/String;") a0 Z = true := hw _ (List.mem_of_getElem? (i := 60) rfl)
theorem wd61 {a0 : Array Value} {Z : State} (hw : ∀ d ∈ tables_1, d.before a0 Z = true) : Jvm.Cond.before (Jvm.Cond.laysFinal "com/example/errand_queue/errandqueue/network/Link" "com/example/errand_queue/errandqueue/network/Link" "id" "Ljava/lang/String;") a0 Z = true := hw _ (List.mem_of_getElem? (i := 61) rfl)
theorem wd62 {a0 : Array Value} {Z : State} (hw : ∀ d ∈ tables_1, d.before a0 Z = true) : Jvm.Cond.before (Jvm.Cond.fieldLink "com/example/errand_queue/errandqueue/network/Link" (59 : Nat) "com/example/errand_queue/errandqueue/network/Link" "fromNodeId" "Ljava/lang/String;") a0 Z = true := hw _ (List.mem_of_getElem? (i := 62) rfl)
theorem wd63 {a0 : Array Value} {Z : State} (hw : ∀ d ∈ tables_1, d.before a0 Z = true) : Jvm.Cond.before (Jvm.Cond.laysFinal "com/example/errand_queue/errandqueue/network/Link" "com/example/errand_queue/errandqueue/network/Link" "fromNodeId" "Ljava/lang/String;") a0 Z = true := hw _ (List.mem_of_getElem? (i := 63) rfl)
theorem wd64 {a0 : Array Value} {Z : State} (hw : ∀ d ∈ tables_1, d.before a0 Z = true) : Jvm.Cond.before (Jvm.Cond.fieldLink "com/example/errand_queue/errandqueue/network/Link" (61 : Nat) "com/example/errand_queue/errandqueue/network/Link" "toNodeId" "Ljava/lang/String;") a0 Z = true := hw _ (List.mem_of_getElem? (i := 64) rfl)
theorem wd65 {a0 : Array Value} {Z : State} (hw : ∀ d ∈ tables_1, d.before a0 Z = true) : Jvm.Cond.before (Jvm.Cond.laysFinal "com/example/errand_queue/errandqueue/network/Link" "com/example/errand_queue/errandqueue/network/Link" "toNodeId" "Ljava/lang/String;") a0 Z = true := hw _ (List.mem_of_getElem? (i := 65) rfl)
theorem wd66 {a0 : Array Value} {Z : State} (hw : ∀ d ∈ tables_1, d.before a0 Z = true) : Jvm.Cond.before (Jvm.Cond.fieldLink "com/example/errand_queue/errandqueue/network/Link" (63 : Nat) "com/example/errand_queue/errandqueue/network/Link" "length" "D") a0 Z = true := hw _ (List.mem_of_getElem? (i := 66) rfl)
theorem wd67 {a0 : Array Value} {Z : State} (hw : ∀ d ∈ tables_1, d.before a0 Z = true) : Jvm.Cond.before (Jvm.Cond.laysFinal "com/example/errand_queue/errandqueue/network/Link" "com/example/errand_queue/errandqueue/network/Link" "length" "D") a0 Z = true := hw _ (List.mem_of_getElem? (i := 67) rfl)
theorem wd68 {a0 : Array Value} {Z : State} (hw : ∀ d ∈ tables_1, d.before a0 Z = true) : Jvm.Cond.before (Jvm.Cond.fieldLink "com/example/errand_queue/errandqueue/network/Link" (66 : Nat) "com/example/errand_queue/errandqueue/network/Link" "lanes" "I") a0 Z = true := hw _ (List.mem_of_getElem? (i := 68) rfl)
theorem wd69 {a0 : Array Value} {Z : State} (hw : ∀ d ∈ tables_1, d.before a0 Z = true) : Jvm.Cond.before (Jvm.Cond.laysFinal "com/example/errand_queue/errandqueue/network/Link" "com/example/errand_queue/errandqueue/network/Link" "lanes" "I") a0 Z = true := hw _ (List.mem_of_getElem? (i := 69) rfl)
theorem wd70 {a0 : Array Value} {Z : State} (hw : ∀ d ∈ tables_1, d.before a0 Z = true) : Jvm.Cond.before (Jvm.Cond.fieldLink "com/example/errand_queue/errandqueue/network/Link" (69 : Nat) "com/example/errand_queue/errandqueue/network/Link" "freeSpeed" "D") a0 Z = true := hw _ (List.mem_of_getElem? (i := 70) rfl)
theorem wd71 {a0 : Array Value} {Z : State} (hw : ∀ d ∈ tables_1, d.before a0 Z = true) : Jvm.Cond.before (Jvm.Cond.laysFinal "com/example/errand_queue/errandqueue/network/Link" "com/example/errand_queue/errandqueue/network/Link" "freeSpeed" "D") a0 Z = true := hw _ (List.mem_of_getElem? (i := 71) rfl)
theorem wd72 {a0 : Array Value} {Z : State} (hw : ∀ d ∈ tables_1, d.before a0 Z = true) : Jvm.Cond.before (Jvm.Cond.fieldLink "com/example/errand_queue/errandqueue/network/Link" (72 : Nat) "com/example/errand_queue/errandqueue/network/Link" "outflowCapacity" "D") a0 Z = true := hw _ (List.mem_of_getElem? (i := 72) rfl)
theorem wd73 {a0 : Array Value} {Z : State} (hw : ∀ d ∈ tables_1, d.before a0 Z = true) : Jvm.Cond.before (Jvm.Cond.laysFinal "com/example/errand_queue/errandqueue/network/Link" "com/example/errand_queue/errandqueue/network/Link" "outflowCapacity" "D") a0 Z = true := hw _ (List.mem_of_getElem? (i := 73) rfl)
theorem wd74 {a0 : Array Value} {Z : State} (hw : ∀ d ∈ tables_1, d.before a0 Z = true) : Jvm.Cond.before (Jvm.Cond.methodLink "com/example/errand_queue/errandqueue/network/LinkOutflowPerSecondPinLaw" (23 : Nat) ({ cls := "com/example/errand_queue/errandqueue/network/Link", name := "outflowPerSecond", desc := "()D" } : Jvm.MethodName)) a0 Z = true := hw _ (List.mem_of_getElem? (i := 74) rfl)
theorem wd75 {a0 : Array Value} {Z : State} (hw : ∀ d ∈ tables_1, d.before a0 Z = true) : Jvm.Cond.before (Jvm.Cond.declares ({ cls := "com/example/errand_queue/errandqueue/network/Link", name := "outflowPerSecond", desc := "()D" } : Jvm.MethodName)) a0 Z = true := hw _ (List.mem_of_getElem? (i := 75) rfl)
theorem wd76 {a0 : Array Value} {Z : State} (hw : ∀ d ∈ tables_1, d.before a0 Z = true) : Jvm.Cond.before (Jvm.Cond.instanceMethod ({ cls := "com/example/errand_queue/errandqueue/network/Link", name := "outflowPerSecond", desc := "()D" } : Jvm.MethodName)) a0 Z = true := hw _ (List.mem_of_getElem? (i := 76) rfl)
theorem wd77 {a0 : Array Value} {Z : State} (hw : ∀ d ∈ tables_1, d.before a0 Z = true) : Jvm.Cond.before (Jvm.Cond.selects "com/example/errand_queue/errandqueue/network/Link" ({ cls := "com/example/errand_queue/errandqueue/network/Link", name := "outflowPerSecond", desc := "()D" } : Jvm.MethodName) ({ cls := "com/example/errand_queue/errandqueue/network/Link", name := "outflowPerSecond", desc := "()D" } : Jvm.MethodName)) a0 Z = true := hw _ (List.mem_of_getElem? (i := 77) rfl)
theorem wd78 {a0 : Array Value} {Z : State} (hw : ∀ d ∈ tables_1, d.before a0 Z = true) : Jvm.Cond.before (Jvm.Cond.code ({ cls := "com/example/errand_queue/errandqueue/network/Link", name := "outflowPerSecond", desc := "()D" } : Jvm.MethodName) prog_13_method_3_code (1 : Nat) (Option.some Jvm.ClassFile.FieldType.double)) a0 Z = true := hw _ (List.mem_of_getElem? (i := 78) rfl)
theorem wd79 {a0 : Array Value} {Z : State} (hw : ∀ d ∈ tables_1, d.before a0 Z = true) : Jvm.Cond.before (Jvm.Cond.methodLink "com/example/errand_queue/errandqueue/network/Link" (75 : Nat) ({ cls := "com/example/errand_queue/errandqueue/network/Link", name := "outflowCapacity", desc := "()D" } : Jvm.MethodName)) a0 Z = true := hw _ (List.mem_of_getElem? (i := 79) rfl)
theorem wd80 {a0 : Array Value} {Z : State} (hw : ∀ d ∈ tables_1, d.before a0 Z = true) : Jvm.Cond.before (Jvm.Cond.declares ({ cls := "com/example/errand_queue/errandqueue/network/Link", name := "outflowCapacity", desc := "()D" } : Jvm.MethodName)) a0 Z = true := hw _ (List.mem_of_getElem? (i := 80) rfl)
theorem wd81 {a0 : Array Value} {Z : State} (hw : ∀ d ∈ tables_1, d.before a0 Z = true) : Jvm.Cond.before (Jvm.Cond.instanceMethod ({ cls := "com/example/errand_queue/errandqueue/network/Link", name := "outflowCapacity", desc := "()D" } : Jvm.MethodName)) a0 Z = true := hw _ (List.mem_of_getElem? (i := 81) rfl)
theorem wd82 {a0 : Array Value} {Z : State} (hw : ∀ d ∈ tables_1, d.before a0 Z = true) : Jvm.Cond.before (Jvm.Cond.selects "com/example/errand_queue/errandqueue/network/Link" ({ cls := "com/example/errand_queue/errandqueue/network/Link", name := "outflowCapacity", desc := "()D" } : Jvm.MethodName) ({ cls := "com/example/errand_queue/errandqueue/network/Link", name := "outflowCapacity", desc := "()D" } : Jvm.MethodName)) a0 Z = true := hw _ (List.mem_of_getElem? (i := 82) rfl)
theorem wd83 {a0 : Array Value} {Z : State} (hw : ∀ d ∈ tables_1, d.before a0 Z = true) : Jvm.Cond.before (Jvm.Cond.code ({ cls := "com/example/errand_queue/errandqueue/network/Link", name := "outflowCapacity", desc := "()D" } : Jvm.MethodName) prog_13_method_15_code (1 : Nat) (Option.some Jvm.ClassFile.FieldType.double)) a0 Z = true := hw _ (List.mem_of_getElem? (i := 83) rfl)
theorem wd84 {a0 : Array Value} {Z : State} (hw : ∀ d ∈ tables_1, d.before a0 Z = true) : Jvm.Cond.before (Jvm.Cond.fieldLink "com/example/errand_queue/errandqueue/network/Link" (78 : Nat) "com/example/errand_queue/errandqueue/network/TimeUnit" "HOUR" "Lcom/example/errand_queue/errandqueue/network/TimeUnit;") a0 Z = true := hw _ (List.mem_of_getElem? (i := 84) rfl)
theorem wd85 {a0 : Array Value} {Z : State} (hw : ∀ d ∈ tables_1, d.before a0 Z = true) : Jvm.Cond.before (Jvm.Cond.initialized "com/example/errand_queue/errandqueue/network/TimeUnit") a0 Z = true := hw _ (List.mem_of_getElem? (i := 85) rfl)
theorem wd86 {a0 : Array Value} {Z : State} (hw : ∀ d ∈ tables_1, d.before a0 Z = true) : Jvm.Cond.before (Jvm.Cond.laysStatic "com/example/errand_queue/errandqueue/network/TimeUnit" "HOUR" "Lcom/example/errand_queue/errandqueue/network/TimeUnit;") a0 Z = true := hw _ (List.mem_of_getElem? (i := 86) rfl)
theorem wd87 {a0 : Array Value} {Z : State} (hw : ∀ d ∈ tables_1, d.before a0 Z = true) : Jvm.Cond.before (Jvm.Cond.methodLink "com/example/errand_queue/errandqueue/network/Link" (84 : Nat) ({ cls := "com/example/errand_queue/errandqueue/network/TimeUnit", name := "seconds", desc := "()D" } : Jvm.MethodName)) a0 Z = true := hw _ (List.mem_of_getElem? (i := 87) rfl)
theorem wd88 {a0 : Array Value} {Z : State} (hw : ∀ d ∈ tables_1, d.before a0 Z = true) : Jvm.Cond.before (Jvm.Cond.declares ({ cls := "com/example/errand_queue/errandqueue/network/TimeUnit", name := "seconds", desc := "()D" } : Jvm.MethodName)) a0 Z = true := hw _ (List.mem_of_getElem? (i := 88) rfl)
theorem wd89 {a0 : Array Value} {Z : State} (hw : ∀ d ∈ tables_1, d.before a0 Z = true) : Jvm.Cond.before (Jvm.Cond.instanceMethod ({ cls := "com/example/errand_queue/errandqueue/network/TimeUnit", name := "seconds", desc := "()D" } : Jvm.MethodName)) a0 Z = true := hw _ (List.mem_of_getElem? (i := 89) rfl)
theorem wd90 {a0 : Array Value} {Z : State} (hw : ∀ d ∈ tables_1, d.before a0 Z = true) : Jvm.Cond.before (Jvm.Cond.selects "com/example/errand_queue/errandqueue/network/TimeUnit" ({ cls := "com/example/errand_queue/errandqueue/network/TimeUnit", name := "seconds", desc := "()D" } : Jvm.MethodName) ({ cls := "com/example/errand_queue/errandqueue/network/TimeUnit", name := "seconds", desc := "()D" } : Jvm.MethodName)) a0 Z = true := hw _ (List.mem_of_getElem? (i := 90) rfl)
theorem wd91 {a0 : Array Value} {Z : State} (hw : ∀ d ∈ tables_1, d.before a0 Z = true) : Jvm.Cond.before (Jvm.Cond.code ({ cls := "com/example/errand_queue/errandqueue/network/TimeUnit", name := "seconds", desc := "()D" } : Jvm.MethodName) prog_19_method_7_code (1 : Nat) (Option.some Jvm.ClassFile.FieldType.double)) a0 Z = true := hw _ (List.mem_of_getElem? (i := 91) rfl)
theorem wd92 {a0 : Array Value} {Z : State} (hw : ∀ d ∈ tables_1, d.before a0 Z = true) : Jvm.Cond.before (Jvm.Cond.fieldLink "com/example/errand_queue/errandqueue/network/TimeUnit" (32 : Nat) "com/example/errand_queue/errandqueue/network/TimeUnit" "seconds" "D") a0 Z = true := hw _ (List.mem_of_getElem? (i := 92) rfl)
theorem wd94 {a0 : Array Value} {Z : State} (hw : ∀ d ∈ tables_1, d.before a0 Z = true) : Jvm.Cond.before (Jvm.Cond.constantDouble "com/example/errand_queue/errandqueue/network/LinkOutflowPerSecondPinLaw" (27 : Nat) (4660134898793709568 : UInt64)) a0 Z = true := hw _ (List.mem_of_getElem? (i := 94) rfl)
theorem sn_String_coder_value {a0 : Array Value} {Z : State} (hw : ∀ d ∈ tables_1, d.before a0 Z = true) : Jvm.RoadKit.slotOf Z "java/lang/String" "coder" "B" ≠ Jvm.RoadKit.slotOf Z "java/lang/String" "value" "[B" := slot_ne (C := "java/lang/String") (a0 := a0) (t := .byte) (t' := (.array .byte)) (Or.inr (wd25 hw)) (Or.inr (wd23 hw)) (by decide) (by decide) (by decide)
theorem sn_String_value_coder {a0 : Array Value} {Z : State} (hw : ∀ d ∈ tables_1, d.before a0 Z = true) : Jvm.RoadKit.slotOf Z "java/lang/String" "value" "[B" ≠ Jvm.RoadKit.slotOf Z "java/lang/String" "coder" "B" := slot_ne (C := "java/lang/String") (a0 := a0) (t := (.array .byte)) (t' := .byte) (Or.inr (wd23 hw)) (Or.inr (wd25 hw)) (by decide) (by decide) (by decide)
theorem sn_Link_fromNodeId_id {a0 : Array Value} {Z : State} (hw : ∀ d ∈ tables_1, d.before a0 Z = true) : Jvm.RoadKit.slotOf Z "com/example/errand_queue/errandqueue/network/Link" "fromNodeId" "Ljava/lang/String;" ≠ Jvm.RoadKit.slotOf Z "com/example/errand_queue/errandqueue/network/Link" "id" "Ljava/lang/String;" := slot_ne (C := "com/example/errand_queue/errandqueue/network/Link") (a0 := a0) (t := (.object "java/lang/String")) (t' := (.object "java/lang/String")) (Or.inr (wd63 hw)) (Or.inr (wd61 hw)) (by decide) (by decide) (by decide)
theorem sn_Link_toNodeId_id {a0 : Array Value} {Z : State} (hw : ∀ d ∈ tables_1, d.before a0 Z = true) : Jvm.RoadKit.slotOf Z "com/example/errand_queue/errandqueue/network/Link" "toNodeId" "Ljava/lang/String;" ≠ Jvm.RoadKit.slotOf Z "com/example/errand_queue/errandqueue/network/Link" "id" "Ljava/lang/String;" := slot_ne (C := "com/example/errand_queue/errandqueue/network/Link") (a0 := a0) (t := (.object "java/lang/String")) (t' := (.object "java/lang/String")) (Or.inr (wd65 hw)) (Or.inr (wd61 hw)) (by decide) (by decide) (by decide)
theorem sn_Link_length_id {a0 : Array Value} {Z : State} (hw : ∀ d ∈ tables_1, d.before a0 Z = true) : Jvm.RoadKit.slotOf Z "com/example/errand_queue/errandqueue/network/Link" "length" "D" ≠ Jvm.RoadKit.slotOf Z "com/example/errand_queue/errandqueue/network/Link" "id" "Ljava/lang/String;" := slot_ne (C := "com/example/errand_queue/errandqueue/network/Link") (a0 := a0) (t := .double) (t' := (.object "java/lang/String")) (Or.inr (wd67 hw)) (Or.inr (wd61 hw)) (by decide) (by decide) (by decide)
theorem sn_Link_lanes_id {a0 : Array Value} {Z : State} (hw : ∀ d ∈ tables_1, d.before a0 Z = true) : Jvm.RoadKit.slotOf Z "com/example/errand_queue/errandqueue/network/Link" "lanes" "I" ≠ Jvm.RoadKit.slotOf Z "com/example/errand_queue/errandqueue/network/Link" "id" "Ljava/lang/String;" := slot_ne (C := "com/example/errand_queue/errandqueue/network/Link") (a0 := a0) (t := .int) (t' := (.object "java/lang/String")) (Or.inr (wd69 hw)) (Or.inr (wd61 hw)) (by decide) (by decide) (by decide)
theorem sn_Link_freeSpeed_id {a0 : Array Value} {Z : State} (hw : ∀ d ∈ tables_1, d.before a0 Z = true) : Jvm.RoadKit.slotOf Z "com/example/errand_queue/errandqueue/network/Link" "freeSpeed" "D" ≠ Jvm.RoadKit.slotOf Z "com/example/errand_queue/errandqueue/network/Link" "id" "Ljava/lang/String;" := slot_ne (C := "com/example/errand_queue/errandqueue/network/Link") (a0 := a0) (t := .double) (t' := (.object "java/lang/String")) (Or.inr (wd71 hw)) (Or.inr (wd61 hw)) (by decide) (by decide) (by decide)
theorem sn_Link_outflowCapacity_id {a0 : Array Value} {Z : State} (hw : ∀ d ∈ tables_1, d.before a0 Z = true) : Jvm.RoadKit.slotOf Z "com/example/errand_queue/errandqueue/network/Link" "outflowCapacity" "D" ≠ Jvm.RoadKit.slotOf Z "com/example/errand_queue/errandqueue/network/Link" "id" "Ljava/lang/String;" := slot_ne (C := "com/example/errand_queue/errandqueue/network/Link") (a0 := a0) (t := .double) (t' := (.object "java/lang/String")) (Or.inr (wd73 hw)) (Or.inr (wd61 hw)) (by decide) (by decide) (by decide)
theorem sn_Link_id_fromNodeId {a0 : Array Value} {Z : State} (hw : ∀ d ∈ tables_1, d.before a0 Z = true) : Jvm.RoadKit.slotOf Z "com/example/errand_queue/errandqueue/network/Link" "id" "Ljava/lang/String;" ≠ Jvm.RoadKit.slotOf Z "com/example/errand_queue/errandqueue/network/Link" "fromNodeId" "Ljava/lang/String;" := slot_ne (C := "com/example/errand_queue/errandqueue/network/Link") (a0 := a0) (t := (.object "java/lang/String")) (t' := (.object "java/lang/String")) (Or.inr (wd61 hw)) (Or.inr (wd63 hw)) (by decide) (by decide) (by decide)
theorem sn_Link_toNodeId_fromNodeId {a0 : Array Value} {Z : State} (hw : ∀ d ∈ tables_1, d.before a0 Z = true) : Jvm.RoadKit.slotOf Z "com/example/errand_queue/errandqueue/network/Link" "toNodeId" "Ljava/lang/String;" ≠ Jvm.RoadKit.slotOf Z "com/example/errand_queue/errandqueue/network/Link" "fromNodeId" "Ljava/lang/String;" := slot_ne (C := "com/example/errand_queue/errandqueue/network/Link") (a0 := a0) (t := (.object "java/lang/String")) (t' := (.object "java/lang/String")) (Or.inr (wd65 hw)) (Or.inr (wd63 hw)) (by decide) (by decide) (by decide)
theorem sn_Link_length_fromNodeId {a0 : Array Value} {Z : State} (hw : ∀ d ∈ tables_1, d.before a0 Z = true) : Jvm.RoadKit.slotOf Z "com/example/errand_queue/errandqueue/network/Link" "length" "D" ≠ Jvm.RoadKit.slotOf Z "com/example/errand_queue/errandqueue/network/Link" "fromNodeId" "Ljava/lang/String;" := slot_ne (C := "com/example/errand_queue/errandqueue/network/Link") (a0 := a0) (t := .double) (t' := (.object "java/lang/String")) (Or.inr (wd67 hw)) (Or.inr (wd63 hw)) (by decide) (by decide) (by decide)
theorem sn_Link_lanes_fromNodeId {a0 : Array Value} {Z : State} (hw : ∀ d ∈ tables_1, d.before a0 Z = true) : Jvm.RoadKit.slotOf Z "com/example/errand_queue/errandqueue/network/Link" "lanes" "I" ≠ Jvm.RoadKit.slotOf Z "com/example/errand_queue/errandqueue/network/Link" "fromNodeId" "Ljava/lang/String;" := slot_ne (C := "com/example/errand_queue/errandqueue/network/Link") (a0 := a0) (t := .int) (t' := (.object "java/lang/String")) (Or.inr (wd69 hw)) (Or.inr (wd63 hw)) (by decide) (by decide) (by decide)
theorem sn_Link_freeSpeed_fromNodeId {a0 : Array Value} {Z : State} (hw : ∀ d ∈ tables_1, d.before a0 Z = true) : Jvm.RoadKit.slotOf Z "com/example/errand_queue/errandqueue/network/Link" "freeSpeed" "D" ≠ Jvm.RoadKit.slotOf Z "com/example/errand_queue/errandqueue/network/Link" "fromNodeId" "Ljava/lang/String;" := slot_ne (C := "com/example/errand_queue/errandqueue/network/Link") (a0 := a0) (t := .double) (t' := (.object "java/lang/String")) (Or.inr (wd71 hw)) (Or.inr (wd63 hw)) (by decide) (by decide) (by decide)
theorem sn_Link_outflowCapacity_fromNodeId {a0 : Array Value} {Z : State} (hw : ∀ d ∈ tables_1, d.before a0 Z = true) : Jvm.RoadKit.slotOf Z "com/example/errand_queue/errandqueue/network/Link" "outflowCapacity" "D" ≠ Jvm.RoadKit.slotOf Z "com/example/errand_queue/errandqueue/network/Link" "fromNodeId" "Ljava/lang/String;" := slot_ne (C := "com/example/errand_queue/errandqueue/network/Link") (a0 := a0) (t := .double) (t' := (.object "java/lang/String")) (Or.inr (wd73 hw)) (Or.inr (wd63 hw)) (by decide) (by decide) (by decide)
theorem sn_Link_id_toNodeId {a0 : Array Value} {Z : State} (hw : ∀ d ∈ tables_1, d.before a0 Z = true) : Jvm.RoadKit.slotOf Z "com/example/errand_queue/errandqueue/network/Link" "id" "Ljava/lang/String;" ≠ Jvm.RoadKit.slotOf Z "com/example/errand_queue/errandqueue/network/Link" "toNodeId" "Ljava/lang/String;" := slot_ne (C := "com/example/errand_queue/errandqueue/network/Link") (a0 := a0) (t := (.object "java/lang/String")) (t' := (.object "java/lang/String")) (Or.inr (wd61 hw)) (Or.inr (wd65 hw)) (by decide) (by decide) (by decide)
theorem sn_Link_fromNodeId_toNodeId {a0 : Array Value} {Z : State} (hw : ∀ d ∈ tables_1, d.before a0 Z = true) : Jvm.RoadKit.slotOf Z "com/example/errand_queue/errandqueue/network/Link" "fromNodeId" "Ljava/lang/String;" ≠ Jvm.RoadKit.slotOf Z "com/example/errand_queue/errandqueue/network/Link" "toNodeId" "Ljava/lang/String;" := slot_ne (C := "com/example/errand_queue/errandqueue/network/Link") (a0 := a0) (t := (.object "java/lang/String")) (t' := (.object "java/lang/String")) (Or.inr (wd63 hw)) (Or.inr (wd65 hw)) (by decide) (by decide) (by decide)
theorem sn_Link_length_toNodeId {a0 : Array Value} {Z : State} (hw : ∀ d ∈ tables_1, d.before a0 Z = true) : Jvm.RoadKit.slotOf Z "com/example/errand_queue/errandqueue/network/Link" "length" "D" ≠ Jvm.RoadKit.slotOf Z "com/example/errand_queue/errandqueue/network/Link" "toNodeId" "Ljava/lang/String;" := slot_ne (C := "com/example/errand_queue/errandqueue/network/Link") (a0 := a0) (t := .double) (t' := (.object "java/lang/String")) (Or.inr (wd67 hw)) (Or.inr (wd65 hw)) (by decide) (by decide) (by decide)
theorem sn_Link_lanes_toNodeId {a0 : Array Value} {Z : State} (hw : ∀ d ∈ tables_1, d.before a0 Z = true) : Jvm.RoadKit.slotOf Z "com/example/errand_queue/errandqueue/network/Link" "lanes" "I" ≠ Jvm.RoadKit.slotOf Z "com/example/errand_queue/errandqueue/network/Link" "toNodeId" "Ljava/lang/String;" := slot_ne (C := "com/example/errand_queue/errandqueue/network/Link") (a0 := a0) (t := .int) (t' := (.object "java/lang/String")) (Or.inr (wd69 hw)) (Or.inr (wd65 hw)) (by decide) (by decide) (by decide)
theorem sn_Link_freeSpeed_toNodeId {a0 : Array Value} {Z : State} (hw : ∀ d ∈ tables_1, d.before a0 Z = true) : Jvm.RoadKit.slotOf Z "com/example/errand_queue/errandqueue/network/Link" "freeSpeed" "D" ≠ Jvm.RoadKit.slotOf Z "com/example/errand_queue/errandqueue/network/Link" "toNodeId" "Ljava/lang/String;" := slot_ne (C := "com/example/errand_queue/errandqueue/network/Link") (a0 := a0) (t := .double) (t' := (.object "java/lang/String")) (Or.inr (wd71 hw)) (Or.inr (wd65 hw)) (by decide) (by decide) (by decide)
theorem sn_Link_outflowCapacity_toNodeId {a0 : Array Value} {Z : State} (hw : ∀ d ∈ tables_1, d.before a0 Z = true) : Jvm.RoadKit.slotOf Z "com/example/errand_queue/errandqueue/network/Link" "outflowCapacity" "D" ≠ Jvm.RoadKit.slotOf Z "com/example/errand_queue/errandqueue/network/Link" "toNodeId" "Ljava/lang/String;" := slot_ne (C := "com/example/errand_queue/errandqueue/network/Link") (a0 := a0) (t := .double) (t' := (.object "java/lang/String")) (Or.inr (wd73 hw)) (Or.inr (wd65 hw)) (by decide) (by decide) (by decide)
theorem sn_Link_id_length {a0 : Array Value} {Z : State} (hw : ∀ d ∈ tables_1, d.before a0 Z = true) : Jvm.RoadKit.slotOf Z "com/example/errand_queue/errandqueue/network/Link" "id" "Ljava/lang/String;" ≠ Jvm.RoadKit.slotOf Z "com/example/errand_queue/errandqueue/network/Link" "length" "D" := slot_ne (C := "com/example/errand_queue/errandqueue/network/Link") (a0 := a0) (t := (.object "java/lang/String")) (t' := .double) (Or.inr (wd61 hw)) (Or.inr (wd67 hw)) (by decide) (by decide) (by decide)
theorem sn_Link_fromNodeId_length {a0 : Array Value} {Z : State} (hw : ∀ d ∈ tables_1, d.before a0 Z = true) : Jvm.RoadKit.slotOf Z "com/example/errand_queue/errandqueue/network/Link" "fromNodeId" "Ljava/lang/String;" ≠ Jvm.RoadKit.slotOf Z "com/example/errand_queue/errandqueue/network/Link" "length" "D" := slot_ne (C := "com/example/errand_queue/errandqueue/network/Link") (a0 := a0) (t := (.object "java/lang/String")) (t' := .double) (Or.inr (wd63 hw)) (Or.inr (wd67 hw)) (by decide) (by decide) (by decide)
theorem sn_Link_toNodeId_length {a0 : Array Value} {Z : State} (hw : ∀ d ∈ tables_1, d.before a0 Z = true) : Jvm.RoadKit.slotOf Z "com/example/errand_queue/errandqueue/network/Link" "toNodeId" "Ljava/lang/String;" ≠ Jvm.RoadKit.slotOf Z "com/example/errand_queue/errandqueue/network/Link" "length" "D" := slot_ne (C := "com/example/errand_queue/errandqueue/network/Link") (a0 := a0) (t := (.object "java/lang/String")) (t' := .double) (Or.inr (wd65 hw)) (Or.inr (wd67 hw)) (by decide) (by decide) (by decide)
theorem sn_Link_lanes_length {a0 : Array Value} {Z : State} (hw : ∀ d ∈ tables_1, d.before a0 Z = true) : Jvm.RoadKit.slotOf Z "com/example/errand_queue/errandqueue/network/Link" "lanes" "I" ≠ Jvm.RoadKit.slotOf Z "com/example/errand_queue/errandqueue/network/Link" "length" "D" := slot_ne (C := "com/example/errand_queue/errandqueue/network/Link") (a0 := a0) (t := .int) (t' := .double) (Or.inr (wd69 hw)) (Or.inr (wd67 hw)) (by decide) (by decide) (by decide)
theorem sn_Link_freeSpeed_length {a0 : Array Value} {Z : State} (hw : ∀ d ∈ tables_1, d.before a0 Z = true) : Jvm.RoadKit.slotOf Z "com/example/errand_queue/errandqueue/network/Link" "freeSpeed" "D" ≠ Jvm.RoadKit.slotOf Z "com/example/errand_queue/errandqueue/network/Link" "length" "D" := slot_ne (C := "com/example/errand_queue/errandqueue/network/Link") (a0 := a0) (t := .double) (t' := .double) (Or.inr (wd71 hw)) (Or.inr (wd67 hw)) (by decide) (by decide) (by decide)
theorem sn_Link_outflowCapacity_length {a0 : Array Value} {Z : State} (hw : ∀ d ∈ tables_1, d.before a0 Z = true) : Jvm.RoadKit.slotOf Z "com/example/errand_queue/errandqueue/network/Link" "outflowCapacity" "D" ≠ Jvm.RoadKit.slotOf Z "com/example/errand_queue/errandqueue/network/Link" "length" "D" := slot_ne (C := "com/example/errand_queue/errandqueue/network/Link") (a0 := a0) (t := .double) (t' := .double) (Or.inr (wd73 hw)) (Or.inr (wd67 hw)) (by decide) (by decide) (by decide)
theorem sn_Link_id_lanes {a0 : Array Value} {Z : State} (hw : ∀ d ∈ tables_1, d.before a0 Z = true) : Jvm.RoadKit.slotOf Z "com/example/errand_queue/errandqueue/network/Link" "id" "Ljava/lang/String;" ≠ Jvm.RoadKit.slotOf Z "com/example/errand_queue/errandqueue/network/Link" "lanes" "I" := slot_ne (C := "com/example/errand_queue/errandqueue/network/Link") (a0 := a0) (t := (.object "java/lang/String")) (t' := .int) (Or.inr (wd61 hw)) (Or.inr (wd69 hw)) (by decide) (by decide) (by decide)
theorem sn_Link_fromNodeId_lanes {a0 : Array Value} {Z : State} (hw : ∀ d ∈ tables_1, d.before a0 Z = true) : Jvm.RoadKit.slotOf Z "com/example/errand_queue/errandqueue/network/Link" "fromNodeId" "Ljava/lang/String;" ≠ Jvm.RoadKit.slotOf Z "com/example/errand_queue/errandqueue/network/Link" "lanes" "I" := slot_ne (C := "com/example/errand_queue/errandqueue/network/Link") (a0 := a0) (t := (.object "java/lang/String")) (t' := .int) (Or.inr (wd63 hw)) (Or.inr (wd69 hw)) (by decide) (by decide) (by decide)
theorem sn_Link_toNodeId_lanes {a0 : Array Value} {Z : State} (hw : ∀ d ∈ tables_1, d.before a0 Z = true) : Jvm.RoadKit.slotOf Z "com/example/errand_queue/errandqueue/network/Link" "toNodeId" "Ljava/lang/String;" ≠ Jvm.RoadKit.slotOf Z "com/example/errand_queue/errandqueue/network/Link" "lanes" "I" := slot_ne (C := "com/example/errand_queue/errandqueue/network/Link") (a0 := a0) (t := (.object "java/lang/String")) (t' := .int) (Or.inr (wd65 hw)) (Or.inr (wd69 hw)) (by decide) (by decide) (by decide)
theorem sn_Link_length_lanes {a0 : Array Value} {Z : State} (hw : ∀ d ∈ tables_1, d.before a0 Z = true) : Jvm.RoadKit.slotOf Z "com/example/errand_queue/errandqueue/network/Link" "length" "D" ≠ Jvm.RoadKit.slotOf Z "com/example/errand_queue/errandqueue/network/Link" "lanes" "I" := slot_ne (C := "com/example/errand_queue/errandqueue/network/Link") (a0 := a0) (t := .double) (t' := .int) (Or.inr (wd67 hw)) (Or.inr (wd69 hw)) (by decide) (by decide) (by decide)
theorem sn_Link_freeSpeed_lanes {a0 : Array Value} {Z : State} (hw : ∀ d ∈ tables_1, d.before a0 Z = true) : Jvm.RoadKit.slotOf Z "com/example/errand_queue/errandqueue/network/Link" "freeSpeed" "D" ≠ Jvm.RoadKit.slotOf Z "com/example/errand_queue/errandqueue/network/Link" "lanes" "I" := slot_ne (C := "com/example/errand_queue/errandqueue/network/Link") (a0 := a0) (t := .double) (t' := .int) (Or.inr (wd71 hw)) (Or.inr (wd69 hw)) (by decide) (by decide) (by decide)
theorem sn_Link_outflowCapacity_lanes {a0 : Array Value} {Z : State} (hw : ∀ d ∈ tables_1, d.before a0 Z = true) : Jvm.RoadKit.slotOf Z "com/example/errand_queue/errandqueue/network/Link" "outflowCapacity" "D" ≠ Jvm.RoadKit.slotOf Z "com/example/errand_queue/errandqueue/network/Link" "lanes" "I" := slot_ne (C := "com/example/errand_queue/errandqueue/network/Link") (a0 := a0) (t := .double) (t' := .int) (Or.inr (wd73 hw)) (Or.inr (wd69 hw)) (by decide) (by decide) (by decide)
theorem sn_Link_id_freeSpeed {a0 : Array Value} {Z : State} (hw : ∀ d ∈ tables_1, d.before a0 Z = true) : Jvm.RoadKit.slotOf Z "com/example/errand_queue/errandqueue/network/Link" "id" "Ljava/lang/String;" ≠ Jvm.RoadKit.slotOf Z "com/example/errand_queue/errandqueue/network/Link" "freeSpeed" "D" := slot_ne (C := "com/example/errand_queue/errandqueue/network/Link") (a0 := a0) (t := (.object "java/lang/String")) (t' := .double) (Or.inr (wd61 hw)) (Or.inr (wd71 hw)) (by decide) (by decide) (by decide)
theorem sn_Link_fromNodeId_freeSpeed {a0 : Array Value} {Z : State} (hw : ∀ d ∈ tables_1, d.before a0 Z = true) : Jvm.RoadKit.slotOf Z "com/example/errand_queue/errandqueue/network/Link" "fromNodeId" "Ljava/lang/String;" ≠ Jvm.RoadKit.slotOf Z "com/example/errand_queue/errandqueue/network/Link" "freeSpeed" "D" := slot_ne (C := "com/example/errand_queue/errandqueue/network/Link") (a0 := a0) (t := (.object "java/lang/String")) (t' := .double) (Or.inr (wd63 hw)) (Or.inr (wd71 hw)) (by decide) (by decide) (by decide)
theorem sn_Link_toNodeId_freeSpeed {a0 : Array Value} {Z : State} (hw : ∀ d ∈ tables_1, d.before a0 Z = true) : Jvm.RoadKit.slotOf Z "com/example/errand_queue/errandqueue/network/Link" "toNodeId" "Ljava/lang/String;" ≠ Jvm.RoadKit.slotOf Z "com/example/errand_queue/errandqueue/network/Link" "freeSpeed" "D" := slot_ne (C := "com/example/errand_queue/errandqueue/network/Link") (a0 := a0) (t := (.object "java/lang/String")) (t' := .double) (Or.inr (wd65 hw)) (Or.inr (wd71 hw)) (by decide) (by decide) (by decide)
theorem sn_Link_length_freeSpeed {a0 : Array Value} {Z : State} (hw : ∀ d ∈ tables_1, d.before a0 Z = true) : Jvm.RoadKit.slotOf Z "com/example/errand_queue/errandqueue/network/Link" "length" "D" ≠ Jvm.RoadKit.slotOf Z "com/example/errand_queue/errandqueue/network/Link" "freeSpeed" "D" := slot_ne (C := "com/example/errand_queue/errandqueue/network/Link") (a0 := a0) (t := .double) (t' := .double) (Or.inr (wd67 hw)) (Or.inr (wd71 hw)) (by decide) (by decide) (by decide)
theorem sn_Link_lanes_freeSpeed {a0 : Array Value} {Z : State} (hw : ∀ d ∈ tables_1, d.before a0 Z = true) : Jvm.RoadKit.slotOf Z "com/example/errand_queue/errandqueue/network/Link" "lanes" "I" ≠ Jvm.RoadKit.slotOf Z "com/example/errand_queue/errandqueue/network/Link" "freeSpeed" "D" := slot_ne (C := "com/example/errand_queue/errandqueue/network/Link") (a0 := a0) (t := .int) (t' := .double) (Or.inr (wd69 hw)) (Or.inr (wd71 hw)) (by decide) (by decide) (by decide)
theorem sn_Link_outflowCapacity_freeSpeed {a0 : Array Value} {Z : State} (hw : ∀ d ∈ tables_1, d.before a0 Z = true) : Jvm.RoadKit.slotOf Z "com/example/errand_queue/errandqueue/network/Link" "outflowCapacity" "D" ≠ Jvm.RoadKit.slotOf Z "com/example/errand_queue/errandqueue/network/Link" "freeSpeed" "D" := slot_ne (C := "com/example/errand_queue/errandqueue/network/Link") (a0 := a0) (t := .double) (t' := .double) (Or.inr (wd73 hw)) (Or.inr (wd71 hw)) (by decide) (by decide) (by decide)
theorem sn_Link_id_outflowCapacity {a0 : Array Value} {Z : State} (hw : ∀ d ∈ tables_1, d.before a0 Z = true) : Jvm.RoadKit.slotOf Z "com/example/errand_queue/errandqueue/network/Link" "id" "Ljava/lang/String;" ≠ Jvm.RoadKit.slotOf Z "com/example/errand_queue/errandqueue/network/Link" "outflowCapacity" "D" := slot_ne (C := "com/example/errand_queue/errandqueue/network/Link") (a0 := a0) (t := (.object "java/lang/String")) (t' := .double) (Or.inr (wd61 hw)) (Or.inr (wd73 hw)) (by decide) (by decide) (by decide)
theorem sn_Link_fromNodeId_outflowCapacity {a0 : Array Value} {Z : State} (hw : ∀ d ∈ tables_1, d.before a0 Z = true) : Jvm.RoadKit.slotOf Z "com/example/errand_queue/errandqueue/network/Link" "fromNodeId" "Ljava/lang/String;" ≠ Jvm.RoadKit.slotOf Z "com/example/errand_queue/errandqueue/network/Link" "outflowCapacity" "D" := slot_ne (C := "com/example/errand_queue/errandqueue/network/Link") (a0 := a0) (t := (.object "java/lang/String")) (t' := .double) (Or.inr (wd63 hw)) (Or.inr (wd73 hw)) (by decide) (by decide) (by decide)
theorem sn_Link_toNodeId_outflowCapacity {a0 : Array Value} {Z : State} (hw : ∀ d ∈ tables_1, d.before a0 Z = true) : Jvm.RoadKit.slotOf Z "com/example/errand_queue/errandqueue/network/Link" "toNodeId" "Ljava/lang/String;" ≠ Jvm.RoadKit.slotOf Z "com/example/errand_queue/errandqueue/network/Link" "outflowCapacity" "D" := slot_ne (C := "com/example/errand_queue/errandqueue/network/Link") (a0 := a0) (t := (.object "java/lang/String")) (t' := .double) (Or.inr (wd65 hw)) (Or.inr (wd73 hw)) (by decide) (by decide) (by decide)
theorem sn_Link_length_outflowCapacity {a0 : Array Value} {Z : State} (hw : ∀ d ∈ tables_1, d.before a0 Z = true) : Jvm.RoadKit.slotOf Z "com/example/errand_queue/errandqueue/network/Link" "length" "D" ≠ Jvm.RoadKit.slotOf Z "com/example/errand_queue/errandqueue/network/Link" "outflowCapacity" "D" := slot_ne (C := "com/example/errand_queue/errandqueue/network/Link") (a0 := a0) (t := .double) (t' := .double) (Or.inr (wd67 hw)) (Or.inr (wd73 hw)) (by decide) (by decide) (by decide)
theorem sn_Link_lanes_outflowCapacity {a0 : Array Value} {Z : State} (hw : ∀ d ∈ tables_1, d.before a0 Z = true) : Jvm.RoadKit.slotOf Z "com/example/errand_queue/errandqueue/network/Link" "lanes" "I" ≠ Jvm.RoadKit.slotOf Z "com/example/errand_queue/errandqueue/network/Link" "outflowCapacity" "D" := slot_ne (C := "com/example/errand_queue/errandqueue/network/Link") (a0 := a0) (t := .int) (t' := .double) (Or.inr (wd69 hw)) (Or.inr (wd73 hw)) (by decide) (by decide) (by decide)
theorem sn_Link_freeSpeed_outflowCapacity {a0 : Array Value} {Z : State} (hw : ∀ d ∈ tables_1, d.before a0 Z = true) : Jvm.RoadKit.slotOf Z "com/example/errand_queue/errandqueue/network/Link" "freeSpeed" "D" ≠ Jvm.RoadKit.slotOf Z "com/example/errand_queue/errandqueue/network/Link" "outflowCapacity" "D" := slot_ne (C := "com/example/errand_queue/errandqueue/network/Link") (a0 := a0) (t := .double) (t' := .double) (Or.inr (wd71 hw)) (Or.inr (wd73 hw)) (by decide) (by decide) (by decide)
theorem pd0 : parseMethodDescriptor "(C)Z" = some ⟨[.char], some .boolean⟩ := by decide +kernel
theorem pd1 : parseMethodDescriptor "(C)[B" = some ⟨[.char], some (.array .byte)⟩ := by decide +kernel
theorem pd2 : parseMethodDescriptor "([BB)V" = some ⟨[(.array .byte), .byte], none⟩ := by decide +kernel
theorem pd3 : parseMethodDescriptor "()V" = some ⟨[], none⟩ := by decide +kernel
theorem pd4 : parseMethodDescriptor "(Ljava/lang/Object;Ljava/lang/String;)Ljava/lang/Object;" = some ⟨[(.object "java/lang/Object"), (.object "java/lang/String")], some (.object "java/lang/Object")⟩ := by decide +kernel
theorem pd5 : parseMethodDescriptor "(D)Z" = some ⟨[.double], some .boolean⟩ := by decide +kernel
theorem pd6 : parseMethodDescriptor "()D" = some ⟨[], some .double⟩ := by decide +kernel
theorem pd7 : parseMethodDescriptor "(C)Ljava/lang/String;" = some ⟨[.char], some (.object "java/lang/String")⟩ := by decide +kernel
theorem pd8 : parseMethodDescriptor "(Ljava/lang/String;Ljava/lang/String;Ljava/lang/String;DIDD)V" = some ⟨[(.object "java/lang/String"), (.object "java/lang/String"), (.object "java/lang/String"), .double, .int, .double, .double], none⟩ := by decide +kernel
theorem pn0 : plainName "java/lang/StringLatin1" = true := by first | (simp [plainName, overriddenIn]; done) | decide +kernel
theorem pn1 : plainName "java/lang/String" = true := by first | (simp [plainName, overriddenIn]; done) | decide +kernel
theorem pn2 : plainName "java/lang/Record" = true := by first | (simp [plainName, overriddenIn]; done) | decide +kernel
theorem pn3 : plainName "java/util/Objects" = true := by first | (simp [plainName, overriddenIn]; done) | decide +kernel
theorem pn4 : plainName "java/lang/Double" = true := by first | (simp [plainName, overriddenIn]; done) | decide +kernel
theorem pn5 : plainName "com/example/errand_queue/errandqueue/network/Link" = true := by first | (simp [plainName, overriddenIn]; done) | decide +kernel
theorem pn6 : plainName "com/example/errand_queue/errandqueue/network/TimeUnit" = true := by first | (simp [plainName, overriddenIn]; done) | decide +kernel
theorem pn7 : plainName "com/example/errand_queue/errandqueue/network/LinkOutflowPerSecondPinLaw" = true := by first | (simp [plainName, overriddenIn]; done) | decide +kernel
theorem own_sa {a0 : Array Value} {Z : State} (hw : ∀ d ∈ tables_1, d.before a0 Z = true) : ∀ a ∈ Bundle.stringAtoms, a.before a0 Z = true := by
  intro a ha
  simp only [Bundle.stringAtoms, List.mem_cons, List.not_mem_nil, or_false] at ha
  rcases ha with rfl | rfl | rfl | rfl | rfl | rfl | rfl
  · exact (wd2 hw)
  · exact (wd10 hw)
  · exact (wd14 hw)
  · exact (wd23 hw)
  · exact (wd25 hw)
  · exact (wd43 hw)
  · exact (wd44 hw)
set_option maxRecDepth 65536 in
set_option maxHeartbeats 40000000 in
theorem c_can (l : Launch) (Z : State) (a0 : Array Value) (hw : ∀ d ∈ tables_1, d.before a0 Z = true) (ws : List Jvm.Cond) (x : Int32) (h0 : Heap) (n0 : Nat) (Z0 : n0 ≤ h0.size) (hx : ¬ 255 < x) :
    Ctr l Z (⟨"java/lang/StringLatin1", "canEncode", "(C)Z"⟩ : MethodName) jdk_43_method_3_code 1 (some .boolean) ws ({ frames := 0, cells := 0, slots := 0, locals := 0 } : Room) n0 #[(.int x)] h0 (fun v h => v = some (.int 1) ∧ h0 = h) := by
  refine ctr (own := "java/lang/StringLatin1") (nm := "canEncode") rfl rfl (Ls := #[.val (.int x)]) (plainFor_of_name pn0) (fun m => by first | (simp [entryFrame, mkF, argsToLocals, Value.category]; done) | rfl) ?_
  intro p e s m below meth c K eh
  refine Jvm.OwnWp.iloadN K d_jdk_43_method_3_0 rfl (pc' := 1) rfl ?_
  refine Jvm.OwnWp.sipush K (255 : Int32) d_jdk_43_method_3_1 (by decide) (pc' := 4) rfl ?_
  refine icN K d_jdk_43_method_3_4 (XT.ii_gt_f hx) (pc' := 7) rfl ?_
  refine Jvm.OwnWp.iconst K (1 : Int32) d_jdk_43_method_3_7 (by decide) (pc' := 8) rfl ?_
  refine goto' K d_jdk_43_method_3_8 (pc' := 12) (by decide) (by decide) ?_
  refine retB K (t := .boolean) rfl (by simp) d_jdk_43_method_3_12 (Nat.le_of_ble_eq_true rfl) (Nat.le_of_ble_eq_true rfl) ?_
  exact ⟨rfl, rfl⟩
set_option maxRecDepth 65536 in
set_option maxHeartbeats 40000000 in
theorem c_tob (l : Launch) (Z : State) (a0 : Array Value) (hw : ∀ d ∈ tables_1, d.before a0 Z = true) (ws : List Jvm.Cond) (x : Int32) (h0 : Heap) (n0 : Nat) (Z0 : n0 ≤ h0.size) :
    Ctr l Z (⟨"java/lang/StringLatin1", "toBytes", "(C)[B"⟩ : MethodName) jdk_43_method_46_code 1 (some (.array .byte)) ws ({ frames := 0, cells := 1, slots := 1, locals := 0 } : Room) n0 #[(.int x)] h0 (fun v h => ∃ b : Addr, v = some (.ref b) ∧ h0.size ≤ b ∧ Keep h0 h []) := by
  refine ctr (own := "java/lang/StringLatin1") (nm := "toBytes") rfl rfl (Ls := #[.val (.int x)]) (plainFor_of_name pn0) (fun m => by first | (simp [entryFrame, mkF, argsToLocals, Value.category]; done) | rfl) ?_
  intro p e s m below meth c K eh
  have P0 := Keep.refl h0 []
  refine Jvm.OwnWp.iconst K (1 : Int32) d_jdk_43_method_46_0 (by decide) (pc' := 1) rfl ?_
  refine newArr K (aty := ArrayType.byte) (N := 1) (wd14 hw) (by decide) (by decide) d_jdk_43_method_46_1 (Nat.le_of_ble_eq_true rfl) (Nat.le_of_ble_eq_true rfl) (pc' := 3) rfl ?_
  intro h1 b1 g1 E1 A1
  have lt_b1 : h0.size ≤ b1 := Nat.le_trans P0.1 (Nat.le_of_eq g1.symm)
  have ge_b1 : n0 ≤ b1 := Nat.le_trans Z0 lt_b1
  have P1 := (P0.ext E1)
  refine Jvm.OwnWp.dup K d_jdk_43_method_46_3 rfl (pc' := 4) rfl ?_
  refine Jvm.OwnWp.iconst K (0 : Int32) d_jdk_43_method_46_4 (by decide) (pc' := 5) rfl ?_
  refine Jvm.OwnWp.iloadN K d_jdk_43_method_46_5 rfl (pc' := 6) rfl ?_
  refine Jvm.OwnWp.i2b K d_jdk_43_method_46_6 (pc' := 7) rfl ?_
  refine bastore K (i := 0) A1 (by decide) (by simp) ge_b1 d_jdk_43_method_46_7 (pc' := 8) rfl ?_
  intro h2 W2
  have P2 := (P1.wr W2 (Or.inr lt_b1))
  have V2_b1 := A1.set W2
  refine retA K (t := (.array .byte)) rfl rfl rfl d_jdk_43_method_46_8 (Nat.le_of_ble_eq_true rfl) (Nat.le_of_ble_eq_true rfl) ?_
  exact ⟨_, rfl, lt_b1, P2⟩
set_option maxRecDepth 65536 in
set_option maxHeartbeats 40000000 in
theorem c_sin (l : Launch) (Z : State) (a0 : Array Value) (hw : ∀ d ∈ tables_1, d.before a0 Z = true) (ws : List Jvm.Cond) (a b : Addr) (h0 : Heap) (n0 : Nat) (Z0 : n0 ≤ h0.size) (E : Exa Z h0 a "java/lang/String") (ge_a : n0 ≤ a) (Fv : Fld Z h0 a "java/lang/String" "value" "[B" .null) (Fc : Fld Z h0 a "java/lang/String" "coder" "B" (.int 0)) :
    Ctr l Z (⟨"java/lang/String", "<init>", "([BB)V"⟩ : MethodName) jdk_42_method_151_code 3 none ws ({ frames := 1, cells := 0, slots := 0, locals := 12 } : Room) n0 #[(.ref a), (.ref b), (.int 0)] h0 (fun v h => v = none ∧ Keep h0 h [a]) := by
  refine ctr (own := "java/lang/String") (nm := "<init>") rfl rfl (Ls := #[.val (.ref a), .val (.ref b), .val (.int 0)]) (plainFor_of_name pn1) (fun m => by first | (simp [entryFrame, mkF, argsToLocals, Value.category]; done) | rfl) ?_
  intro p e s m below meth c K eh
  have P0 := Keep.refl h0 [a]
  refine Jvm.OwnWp.aloadN K d_jdk_42_method_151_0 rfl rfl (pc' := 1) rfl ?_
  refine initObj K (wd19 hw) (wd20 hw) (wd21 hw) d_jdk_42_method_151_1 rfl (Nat.le_of_ble_eq_true rfl) (Nat.le_of_ble_eq_true rfl) (pc' := 4) rfl ?_
  refine Jvm.OwnWp.aloadN K d_jdk_42_method_151_4 rfl rfl (pc' := 5) rfl ?_
  refine Jvm.OwnWp.aloadN K d_jdk_42_method_151_5 rfl rfl (pc' := 6) rfl ?_
  refine putf K (wd22 hw) Via.refl Fv E (Or.inr ⟨(wd23 hw), rfl, rfl⟩) (wd10 hw) (ty := (.array .byte)) (by decide) rfl rfl ge_a d_jdk_42_method_151_6 (pc' := 9) rfl ?_
  intro h3 W3
  have F3_coder_a := (Fld.other W3 Fc (Or.inr (sn_String_coder_value hw)))
  have X3_a := (Exa.wr W3 E)
  have P3 := (P0.wr W3 (Or.inl (List.mem_of_getElem? (i := 0) rfl)))
  have F3_value_a := Fld.same W3 Fv
  refine Jvm.OwnWp.aloadN K d_jdk_42_method_151_9 rfl rfl (pc' := 10) rfl ?_
  refine Jvm.OwnWp.iloadN K d_jdk_42_method_151_10 rfl (pc' := 11) rfl ?_
  refine putf K (wd24 hw) Via.refl F3_coder_a X3_a (Or.inr ⟨(wd25 hw), rfl, rfl⟩) (wd10 hw) (ty := .byte) (by decide) rfl rfl ge_a d_jdk_42_method_151_11 (pc' := 14) rfl ?_
  intro h4 W4
  have F4_value_a := (Fld.other W4 F3_value_a (Or.inr (sn_String_value_coder hw)))
  have X4_a := (Exa.wr W4 X3_a)
  have P4 := (P3.wr W4 (Or.inl (List.mem_of_getElem? (i := 0) rfl)))
  have F4_coder_a := Fld.same W4 F3_coder_a
  refine retV K rfl d_jdk_42_method_151_14 (Nat.le_of_ble_eq_true rfl) (Nat.le_of_ble_eq_true rfl) ?_
  exact ⟨rfl, P4⟩
set_option maxRecDepth 65536 in
set_option maxHeartbeats 40000000 in
theorem c_vof (l : Launch) (Z : State) (a0 : Array Value) (hw : ∀ d ∈ tables_1, d.before a0 Z = true) (ws : List Jvm.Cond) (x cs : Int32) (h0 : Heap) (n0 : Nat) (Z0 : n0 ≤ h0.size) (O0 : Old Z n0 h0) (S_cs : Sta Z Z.heap "java/lang/String" "COMPACT_STRINGS" "Z" (.int cs)) (ncs : cs ≠ 0) (hx : ¬ 255 < x) :
    Ctr l Z (⟨"java/lang/String", "valueOf", "(C)Ljava/lang/String;"⟩ : MethodName) jdk_42_method_139_code 1 (some (.object "java/lang/String")) ws ({ frames := 2, cells := 2, slots := 5, locals := 27 } : Room) n0 #[(.int x)] h0 (fun v h => ∃ a : Addr, v = some (.ref a) ∧ h0.size ≤ a ∧ Keep h0 h []) := by
  refine ctr (own := "java/lang/String") (nm := "valueOf") rfl rfl (Ls := #[.val (.int x)]) (plainFor_of_name pn1) (fun m => by first | (simp [entryFrame, mkF, argsToLocals, Value.category]; done) | rfl) ?_
  intro p e s m below meth c K eh
  have P0 := Keep.refl h0 []
  refine Jvm.OwnWp.gets K (wd4 hw) Via.refl (Sta.ext O0.2 S_cs) d_jdk_42_method_139_0 (pc' := 3) rfl ?_
  refine ifN K d_jdk_42_method_139_3 (XT.i0_eq_f ncs) (pc' := 6) rfl ?_
  refine Jvm.OwnWp.iloadN K d_jdk_42_method_139_6 rfl (pc' := 7) rfl ?_
  refine callStatic K (y := (⟨"java/lang/StringLatin1", "canEncode", "(C)Z"⟩ : MethodName)) (argsL := [(.int x)]) (S := []) (wd5 hw) (wd6 hw) (wd7 hw) (wd8 hw) (by decide) (c_can l Z a0 hw [] x h0 n0 Z0 hx) (lenOf pd0 rfl) d_jdk_42_method_139_7 rfl (Nat.le_of_ble_eq_true rfl) (Nat.le_of_ble_eq_true rfl) (Nat.le_of_ble_eq_true rfl) (Nat.le_of_ble_eq_true rfl) rfl (pc' := 10) rfl ?_
  rintro v5 h5 ⟨rfl, rfl⟩
  show GoE _ _ _ _ _ _ _ _ _ _ _ _ h0 0 0 (mkF m 10 #[.val (.int x)] [(.int (1 : Int32))]) _
  refine ifN K d_jdk_42_method_139_10 (by decide) (pc' := 13) rfl ?_
  refine newObj K (wd9 hw) (wd10 hw) (wd2 hw) d_jdk_42_method_139_13 (by decide) (by decide) (pc' := 16) rfl ?_
  intro h6 b6 g6 E6 A6 D6
  have lt_b6 : h0.size ≤ b6 := Nat.le_trans P0.1 (Nat.le_of_eq g6.symm)
  have ge_b6 : n0 ≤ b6 := Nat.le_trans Z0 lt_b6
  have O6 := (O0.ext E6)
  have P6 := (P0.ext E6)
  have F6_value_b6 : Fld Z h6 b6 "java/lang/String" "value" "[B" .null := D6 (Or.inr (wd23 hw)) (ty := (.array .byte)) (by decide)
  have F6_coder_b6 : Fld Z h6 b6 "java/lang/String" "coder" "B" (.int (0 : Int32)) := D6 (Or.inr (wd25 hw)) (ty := .byte) (by decide)
  refine Jvm.OwnWp.dup K d_jdk_42_method_139_16 rfl (pc' := 17) rfl ?_
  refine Jvm.OwnWp.iloadN K d_jdk_42_method_139_17 rfl (pc' := 18) rfl ?_
  refine callStatic K (y := (⟨"java/lang/StringLatin1", "toBytes", "(C)[B"⟩ : MethodName)) (argsL := [(.int x)]) (S := [(.ref b6), (.ref b6)]) (wd11 hw) (wd12 hw) (wd7 hw) (wd13 hw) (by decide) (c_tob l Z a0 hw [] x h6 n0 (Nat.le_trans Z0 P6.1)) (lenOf pd1 rfl) d_jdk_42_method_139_18 rfl (Nat.le_of_ble_eq_true rfl) (Nat.le_of_ble_eq_true rfl) (Nat.le_of_ble_eq_true rfl) (Nat.le_of_ble_eq_true rfl) rfl (pc' := 21) rfl ?_
  rintro v7 h7 ⟨x7, rfl, L7, K7⟩
  have ne_b6_x7 : b6 ≠ x7 := Nat.ne_of_lt (Nat.lt_of_lt_of_le (Exa.lt A6) L7)
  have lt_x7 : h0.size ≤ x7 := Nat.le_trans P6.1 L7
  have ge_x7 : n0 ≤ x7 := Nat.le_trans Z0 lt_x7
  have F7_value_b6 := (Fld.keep F6_value_b6 K7 (nin0))
  have F7_coder_b6 := (Fld.keep F6_coder_b6 K7 (nin0))
  have X7_b6 := (Exa.keep A6 K7)
  have O7 := (O6.keep K7 (all0))
  have P7 := (P6.trans K7 (all0))
  show GoE _ _ _ _ _ _ _ _ _ _ _ _ h7 2 5 (mkF m 21 #[.val (.int x)] [(.ref x7), (.ref b6), (.ref b6)]) _
  refine Jvm.OwnWp.iconst K (0 : Int32) d_jdk_42_method_139_21 (by decide) (pc' := 22) rfl ?_
  show GoE _ _ _ _ _ _ _ _ _ _ _ _ h7 2 5 (mkF m 22 #[.val (.int x)] [(.int 0), (.ref x7), (.ref b6), (.ref b6)]) _
  refine callInit K (y := (⟨"java/lang/String", "<init>", "([BB)V"⟩ : MethodName)) (b := b6) (argsL := [(.ref x7), (.int 0)]) (S := [(.ref b6)]) rfl (wd15 hw) (wd16 hw) (wd2 hw) (wd18 hw) rfl (by decide) (c_sin l Z a0 hw [] b6 x7 h7 n0 (Nat.le_trans Z0 P7.1) X7_b6 ge_b6 F7_value_b6 F7_coder_b6) (lenOf pd2 rfl) d_jdk_42_method_139_22 rfl (Nat.le_of_ble_eq_true rfl) (Nat.le_of_ble_eq_true rfl) (Nat.le_of_ble_eq_true rfl) (Nat.le_of_ble_eq_true rfl) rfl (pc' := 25) rfl ?_
  rintro v8 h8 ⟨rfl, K8⟩
  have X8_b6 := (Exa.keep X7_b6 K8)
  have O8 := (O7.keep K8 (allS ge_b6 (all0)))
  have P8 := (P7.trans K8 (allS (Or.inr lt_b6) (all0)))
  show GoE _ _ _ _ _ _ _ _ _ _ _ _ h8 2 5 (mkF m 25 #[.val (.int x)] [(.ref b6)]) _
  refine retA K (t := (.object "java/lang/String")) rfl rfl rfl d_jdk_42_method_139_25 (Nat.le_of_ble_eq_true rfl) (Nat.le_of_ble_eq_true rfl) ?_
  exact ⟨_, rfl, lt_b6, P8⟩
set_option maxRecDepth 65536 in
set_option maxHeartbeats 40000000 in
theorem c_rec (l : Launch) (Z : State) (a0 : Array Value) (hw : ∀ d ∈ tables_1, d.before a0 Z = true) (ws : List Jvm.Cond) (b : Addr) (h0 : Heap) (n0 : Nat) (Z0 : n0 ≤ h0.size) :
    Ctr l Z (⟨"java/lang/Record", "<init>", "()V"⟩ : MethodName) jdk_30_method_1_code 1 none ws ({ frames := 1, cells := 0, slots := 0, locals := 12 } : Room) n0 #[(.ref b)] h0 (fun v h => v = none ∧ h0 = h) := by
  refine ctr (own := "java/lang/Record") (nm := "<init>") rfl rfl (Ls := #[.val (.ref b)]) (plainFor_of_name pn2) (fun m => by first | (simp [entryFrame, mkF, argsToLocals, Value.category]; done) | rfl) ?_
  intro p e s m below meth c K eh
  refine Jvm.OwnWp.aloadN K d_jdk_30_method_1_0 rfl rfl (pc' := 1) rfl ?_
  refine initObj K (wd41 hw) (wd20 hw) (wd21 hw) d_jdk_30_method_1_1 rfl (Nat.le_of_ble_eq_true rfl) (Nat.le_of_ble_eq_true rfl) (pc' := 4) rfl ?_
  refine retV K rfl d_jdk_30_method_1_4 (Nat.le_of_ble_eq_true rfl) (Nat.le_of_ble_eq_true rfl) ?_
  exact ⟨rfl, rfl⟩
set_option maxRecDepth 65536 in
set_option maxHeartbeats 40000000 in
theorem c_rnn (l : Launch) (Z : State) (a0 : Array Value) (hw : ∀ d ∈ tables_1, d.before a0 Z = true) (ws : List Jvm.Cond) (a b : Addr) (h0 : Heap) (n0 : Nat) (Z0 : n0 ≤ h0.size) :
    Ctr l Z (⟨"java/util/Objects", "requireNonNull", "(Ljava/lang/Object;Ljava/lang/String;)Ljava/lang/Object;"⟩ : MethodName) jdk_31_method_11_code 2 (some (.object "java/lang/Object")) ws ({ frames := 0, cells := 0, slots := 0, locals := 0 } : Room) n0 #[(.ref a), (.ref b)] h0 (fun v h => v = some (.ref a) ∧ h0 = h) := by
  refine ctr (own := "java/util/Objects") (nm := "requireNonNull") rfl rfl (Ls := #[.val (.ref a), .val (.ref b)]) (plainFor_of_name pn3) (fun m => by first | (simp [entryFrame, mkF, argsToLocals, Value.category]; done) | rfl) ?_
  intro p e s m below meth c K eh
  refine Jvm.OwnWp.aloadN K d_jdk_31_method_11_0 rfl rfl (pc' := 1) rfl ?_
  refine nonnullY K d_jdk_31_method_11_1 (pc' := 13) (by decide) (by decide) ?_
  refine Jvm.OwnWp.aloadN K d_jdk_31_method_11_13 rfl rfl (pc' := 14) rfl ?_
  refine retA K (t := (.object "java/lang/Object")) rfl rfl rfl d_jdk_31_method_11_14 (Nat.le_of_ble_eq_true rfl) (Nat.le_of_ble_eq_true rfl) ?_
  exact ⟨rfl, rfl⟩
theorem own_le_max {x : UInt64} (h : Jvm.Free.Fl.Fin64 x) : Jvm.OwnWp.dle (FP.dcmp (x &&& 0x7fffffffffffffff) 9218868437227405311) :=
  Jvm.Free.Fl.relLe_iff.mp ((Jvm.Free.Fl.le_max_iff h.noNaN).mpr h)
set_option maxRecDepth 65536 in
set_option maxHeartbeats 40000000 in
theorem c_fin (l : Launch) (Z : State) (a0 : Array Value) (hw : ∀ d ∈ tables_1, d.before a0 Z = true) (ws : List Jvm.Cond) (x : UInt64) (h0 : Heap) (n0 : Nat) (Z0 : n0 ≤ h0.size) (fx : Jvm.Free.Fl.Fin64 x) :
    Ctr l Z (⟨"java/lang/Double", "isFinite", "(D)Z"⟩ : MethodName) jdk_117_method_8_code 2 (some .boolean) ws ({ frames := 1, cells := 0, slots := 0, locals := 13 } : Room) n0 #[(.double x)] h0 (fun v h => v = some (.int 1) ∧ h0 = h) := by
  refine ctr (own := "java/lang/Double") (nm := "isFinite") rfl rfl (Ls := #[.val (.double x), .second]) (plainFor_of_name pn4) (fun m => by first | (simp [entryFrame, mkF, argsToLocals, Value.category]; done) | rfl) ?_
  intro p e s m below meth c K eh
  refine Jvm.OwnWp.dloadN K d_jdk_117_method_8_0 rfl (pc' := 1) rfl ?_
  refine callAbs K (wd55 hw) (wd56 hw) (wd57 hw) (wd58 hw) fx.noNaN d_jdk_117_method_8_1 rfl (Nat.le_of_ble_eq_true rfl) (Nat.le_of_ble_eq_true rfl) (Nat.le_of_ble_eq_true rfl) (Nat.le_of_ble_eq_true rfl) (pc' := 4) rfl ?_
  refine Jvm.OwnWp.ldc2D K (wd59 hw) d_jdk_117_method_8_4 (pc' := 7) rfl ?_
  refine Jvm.OwnWp.dcmp K d_jdk_117_method_8_7 (pc' := 8) rfl ?_
  refine ifN K d_jdk_117_method_8_8 (dd_g_gt_f (own_le_max fx)) (pc' := 11) rfl ?_
  refine Jvm.OwnWp.iconst K (1 : Int32) d_jdk_117_method_8_11 (by decide) (pc' := 12) rfl ?_
  refine goto' K d_jdk_117_method_8_12 (pc' := 16) (by decide) (by decide) ?_
  refine retB K (t := .boolean) rfl (by simp) d_jdk_117_method_8_16 (Nat.le_of_ble_eq_true rfl) (Nat.le_of_ble_eq_true rfl) ?_
  exact ⟨rfl, rfl⟩
theorem own_gt {r : Option Ordering} (h : r = some .gt) : ¬ Jvm.OwnWp.dle r := by subst h; rintro (q | q) <;> cases q
set_option maxRecDepth 65536 in
set_option maxHeartbeats 40000000 in
theorem c_lin (l : Launch) (Z : State) (a0 : Array Value) (hw : ∀ d ∈ tables_1, d.before a0 Z = true) (ws : List Jvm.Cond) (b s1 s2 s3 : Addr) (x y z : UInt64) (k : Int32) (h0 : Heap) (n0 : Nat) (Z0 : n0 ≤ h0.size) (E : Exa Z h0 b "com/example/errand_queue/errandqueue/network/Link") (ge_b : n0 ≤ b) (G_id : Fld Z h0 b "com/example/errand_queue/errandqueue/network/Link" "id" "Ljava/lang/String;" .null) (G_fromNodeId : Fld Z h0 b "com/example/errand_queue/errandqueue/network/Link" "fromNodeId" "Ljava/lang/String;" .null) (G_toNodeId : Fld Z h0 b "com/example/errand_queue/errandqueue/network/Link" "toNodeId" "Ljava/lang/String;" .null) (G_length : Fld Z h0 b "com/example/errand_queue/errandqueue/network/Link" "length" "D" (.double 0)) (G_lanes : Fld Z h0 b "com/example/errand_queue/errandqueue/network/Link" "lanes" "I" (.int 0)) (G_freeSpeed : Fld Z h0 b "com/example/errand_queue/errandqueue/network/Link" "freeSpeed" "D" (.double 0)) (G_outflowCapacity : Fld Z h0 b "com/example/errand_queue/errandqueue/network/Link" "outflowCapacity" "D" (.double 0)) (fx : Jvm.Free.Fl.Fin64 x) (fy : Jvm.Free.Fl.Fin64 y) (fz : Jvm.Free.Fl.Fin64 z) (px : ¬ FP.dcmp x 0 = some .lt) (py : FP.dcmp y 0 = some .gt) (pz : FP.dcmp z 0 = some .gt) (hk_ : ¬ k < 1) :
    CtrW l Z (⟨"com/example/errand_queue/errandqueue/network/Link", "<init>", "(Ljava/lang/String;Ljava/lang/String;Ljava/lang/String;DIDD)V"⟩ : MethodName) prog_13_method_1_code 11 none ws ({ frames := 2, cells := 6, slots := 92, locals := 26 } : Room) n0 #[(.ref b), (.ref s1), (.ref s2), (.ref s3), (.double x), (.int k), (.double y), (.double z)] h0 (fun v h => v = none ∧ Keep h0 h [b] ∧ Fld Z h b "com/example/errand_queue/errandqueue/network/Link" "outflowCapacity" "D" (.double z)) := by
  refine ctrW (own := "com/example/errand_queue/errandqueue/network/Link") (nm := "<init>") rfl rfl (Ls := #[.val (.ref b), .val (.ref s1), .val (.ref s2), .val (.ref s3), .val (.double x), .second, .val (.int k), .val (.double y), .second, .val (.double z), .second]) (plainFor_of_name pn5) (fun m => by first | (simp [entryFrame, mkF, argsToLocals, Value.category]; done) | rfl) ?_
  intro p e s m below meth c vm0 K eh hS
  have hk0 : 0 ≤ h0.size := Nat.zero_le _
  have P0 := Keep.refl h0 [b]
  refine Jvm.OwnWp.aloadN K d_prog_13_method_1_0 rfl rfl (pc' := 1) rfl ?_
  refine callInit K (y := (⟨"java/lang/Record", "<init>", "()V"⟩ : MethodName)) (b := b) (argsL := []) (S := []) rfl (wd36 hw) (wd37 hw) (wd39 hw) (wd40 hw) rfl (by decide) (c_rec l Z a0 hw [] b h0 n0 Z0) (lenOf pd3 rfl) d_prog_13_method_1_1 rfl (Nat.le_of_ble_eq_true rfl) (Nat.le_of_ble_eq_true rfl) (Nat.le_of_ble_eq_true rfl) (Nat.le_of_ble_eq_true rfl) rfl (pc' := 4) rfl ?_
  rintro v9 h9 ⟨rfl, rfl⟩
  show GoE _ _ _ _ _ _ _ _ _ _ _ _ h0 0 0 (mkF m 4 #[.val (.ref b), .val (.ref s1), .val (.ref s2), .val (.ref s3), .val (.double x), .second, .val (.int k), .val (.double y), .second, .val (.double z), .second] []) _
  refine Jvm.OwnWp.aloadN K d_prog_13_method_1_4 rfl rfl (pc' := 5) rfl ?_
  refine ldcG K hS hk0 (wd42 hw) (own_sa hw) d_prog_13_method_1_5 (n := 8) (by decide +kernel) (by decide) (Nat.le_of_ble_eq_true rfl) (Nat.le_of_ble_eq_true rfl) (pc' := 7) rfl ?_
  intro vm10 a10 h10 k10 K hS hk10 E10
  have F10_id_b := (Fld.ext E10 G_id)
  have F10_fromNodeId_b := (Fld.ext E10 G_fromNodeId)
  have F10_toNodeId_b := (Fld.ext E10 G_toNodeId)
  have F10_length_b := (Fld.ext E10 G_length)
  have F10_lanes_b := (Fld.ext E10 G_lanes)
  have F10_freeSpeed_b := (Fld.ext E10 G_freeSpeed)
  have F10_outflowCapacity_b := (Fld.ext E10 G_outflowCapacity)
  have X10_b := (Exa.ext E10 E)
  have P10 := (P0.ext E10)
  refine callStatic K (y := (⟨"java/util/Objects", "requireNonNull", "(Ljava/lang/Object;Ljava/lang/String;)Ljava/lang/Object;"⟩ : MethodName)) (argsL := [(.ref s1), (.ref a10)]) (S := []) (wd45 hw) (wd46 hw) (wd47 hw) (wd48 hw) (by decide) (c_rnn l Z a0 hw [] s1 a10 h10 n0 (Nat.le_trans Z0 P10.1)) (lenOf pd4 rfl) d_prog_13_method_1_7 rfl (Nat.le_of_ble_eq_true rfl) (Nat.le_of_ble_eq_true rfl) (Nat.le_of_ble_eq_true rfl) (Nat.le_of_ble_eq_true rfl) rfl (pc' := 10) rfl ?_
  rintro v11 h11 ⟨rfl, rfl⟩
  show GoE _ _ _ _ _ _ _ _ _ _ _ _ h10 2 12 (mkF m 10 #[.val (.ref b), .val (.ref s1), .val (.ref s2), .val (.ref s3), .val (.double x), .second, .val (.int k), .val (.double y), .second, .val (.double z), .second] [(.ref s1)]) _
  refine Jvm.OwnWp.pop K d_prog_13_method_1_10 rfl (pc' := 11) rfl ?_
  refine Jvm.OwnWp.aloadN K d_prog_13_method_1_11 rfl rfl (pc' := 12) rfl ?_
  refine ldcG K hS hk10 (wd49 hw) (own_sa hw) d_prog_13_method_1_12 (n := 40) (by decide +kernel) (by decide) (Nat.le_of_ble_eq_true rfl) (Nat.le_of_ble_eq_true rfl) (pc' := 14) rfl ?_
  intro vm12 a12 h12 k12 K hS hk12 E12
  have F12_id_b := (Fld.ext E12 F10_id_b)
  have F12_fromNodeId_b := (Fld.ext E12 F10_fromNodeId_b)
  have F12_toNodeId_b := (Fld.ext E12 F10_toNodeId_b)
  have F12_length_b := (Fld.ext E12 F10_length_b)
  have F12_lanes_b := (Fld.ext E12 F10_lanes_b)
  have F12_freeSpeed_b := (Fld.ext E12 F10_freeSpeed_b)
  have F12_outflowCapacity_b := (Fld.ext E12 F10_outflowCapacity_b)
  have X12_b := (Exa.ext E12 X10_b)
  have P12 := (P10.ext E12)
  refine callStatic K (y := (⟨"java/util/Objects", "requireNonNull", "(Ljava/lang/Object;Ljava/lang/String;)Ljava/lang/Object;"⟩ : MethodName)) (argsL := [(.ref s2), (.ref a12)]) (S := []) (wd45 hw) (wd46 hw) (wd47 hw) (wd48 hw) (by decide) (c_rnn l Z a0 hw [] s2 a12 h12 n0 (Nat.le_trans Z0 P12.1)) (lenOf pd4 rfl) d_prog_13_method_1_14 rfl (Nat.le_of_ble_eq_true rfl) (Nat.le_of_ble_eq_true rfl) (Nat.le_of_ble_eq_true rfl) (Nat.le_of_ble_eq_true rfl) rfl (pc' := 17) rfl ?_
  rintro v13 h13 ⟨rfl, rfl⟩
  show GoE _ _ _ _ _ _ _ _ _ _ _ _ h12 4 56 (mkF m 17 #[.val (.ref b), .val (.ref s1), .val (.ref s2), .val (.ref s3), .val (.double x), .second, .val (.int k), .val (.double y), .second, .val (.double z), .second] [(.ref s2)]) _
  refine Jvm.OwnWp.pop K d_prog_13_method_1_17 rfl (pc' := 18) rfl ?_
  refine Jvm.OwnWp.aloadN K d_prog_13_method_1_18 rfl rfl (pc' := 19) rfl ?_
  refine ldcG K hS hk12 (wd50 hw) (own_sa hw) d_prog_13_method_1_19 (n := 32) (by decide +kernel) (by decide) (Nat.le_of_ble_eq_true rfl) (Nat.le_of_ble_eq_true rfl) (pc' := 21) rfl ?_
  intro vm14 a14 h14 k14 K hS hk14 E14
  have F14_id_b := (Fld.ext E14 F12_id_b)
  have F14_fromNodeId_b := (Fld.ext E14 F12_fromNodeId_b)
  have F14_toNodeId_b := (Fld.ext E14 F12_toNodeId_b)
  have F14_length_b := (Fld.ext E14 F12_length_b)
  have F14_lanes_b := (Fld.ext E14 F12_lanes_b)
  have F14_freeSpeed_b := (Fld.ext E14 F12_freeSpeed_b)
  have F14_outflowCapacity_b := (Fld.ext E14 F12_outflowCapacity_b)
  have X14_b := (Exa.ext E14 X12_b)
  have P14 := (P12.ext E14)
  refine callStatic K (y := (⟨"java/util/Objects", "requireNonNull", "(Ljava/lang/Object;Ljava/lang/String;)Ljava/lang/Object;"⟩ : MethodName)) (argsL := [(.ref s3), (.ref a14)]) (S := []) (wd45 hw) (wd46 hw) (wd47 hw) (wd48 hw) (by decide) (c_rnn l Z a0 hw [] s3 a14 h14 n0 (Nat.le_trans Z0 P14.1)) (lenOf pd4 rfl) d_prog_13_method_1_21 rfl (Nat.le_of_ble_eq_true rfl) (Nat.le_of_ble_eq_true rfl) (Nat.le_of_ble_eq_true rfl) (Nat.le_of_ble_eq_true rfl) rfl (pc' := 24) rfl ?_
  rintro v15 h15 ⟨rfl, rfl⟩
  show GoE _ _ _ _ _ _ _ _ _ _ _ _ h14 6 92 (mkF m 24 #[.val (.ref b), .val (.ref s1), .val (.ref s2), .val (.ref s3), .val (.double x), .second, .val (.int k), .val (.double y), .second, .val (.double z), .second] [(.ref s3)]) _
  refine Jvm.OwnWp.pop K d_prog_13_method_1_24 rfl (pc' := 25) rfl ?_
  refine Jvm.OwnWp.dload K d_prog_13_method_1_25 rfl (pc' := 27) rfl ?_
  refine callStatic K (y := (⟨"java/lang/Double", "isFinite", "(D)Z"⟩ : MethodName)) (argsL := [(.double x)]) (S := []) (wd51 hw) (wd52 hw) (wd53 hw) (wd54 hw) (by decide) (c_fin l Z a0 hw [] x h14 n0 (Nat.le_trans Z0 P14.1) fx) (lenOf pd5 rfl) d_prog_13_method_1_27 rfl (Nat.le_of_ble_eq_true rfl) (Nat.le_of_ble_eq_true rfl) (Nat.le_of_ble_eq_true rfl) (Nat.le_of_ble_eq_true rfl) rfl (pc' := 30) rfl ?_
  rintro v16 h16 ⟨rfl, rfl⟩
  show GoE _ _ _ _ _ _ _ _ _ _ _ _ h14 6 92 (mkF m 30 #[.val (.ref b), .val (.ref s1), .val (.ref s2), .val (.ref s3), .val (.double x), .second, .val (.int k), .val (.double y), .second, .val (.double z), .second] [(.int (1 : Int32))]) _
  refine ifN K d_prog_13_method_1_30 (by decide) (pc' := 33) rfl ?_
  refine Jvm.OwnWp.dload K d_prog_13_method_1_33 rfl (pc' := 35) rfl ?_
  refine Jvm.OwnWp.dconst0 K d_prog_13_method_1_35 (v := (0 : UInt64)) rfl (pc' := 36) rfl ?_
  refine Jvm.OwnWp.dcmp K d_prog_13_method_1_36 (pc' := 37) rfl ?_
  refine ifY K d_prog_13_method_1_37 (dd_g_ge_t px) (pc' := 54) (by decide) (by decide) ?_
  refine Jvm.OwnWp.iload K d_prog_13_method_1_54 rfl (pc' := 56) rfl ?_
  refine Jvm.OwnWp.iconst K (1 : Int32) d_prog_13_method_1_56 (by decide) (pc' := 57) rfl ?_
  refine icY K d_prog_13_method_1_57 (XT.ii_ge_t hk_) (pc' := 74) (by decide) (by decide) ?_
  refine Jvm.OwnWp.dload K d_prog_13_method_1_74 rfl (pc' := 76) rfl ?_
  refine callStatic K (y := (⟨"java/lang/Double", "isFinite", "(D)Z"⟩ : MethodName)) (argsL := [(.double y)]) (S := []) (wd51 hw) (wd52 hw) (wd53 hw) (wd54 hw) (by decide) (c_fin l Z a0 hw [] y h14 n0 (Nat.le_trans Z0 P14.1) fy) (lenOf pd5 rfl) d_prog_13_method_1_76 rfl (Nat.le_of_ble_eq_true rfl) (Nat.le_of_ble_eq_true rfl) (Nat.le_of_ble_eq_true rfl) (Nat.le_of_ble_eq_true rfl) rfl (pc' := 79) rfl ?_
  rintro v17 h17 ⟨rfl, rfl⟩
  show GoE _ _ _ _ _ _ _ _ _ _ _ _ h14 6 92 (mkF m 79 #[.val (.ref b), .val (.ref s1), .val (.ref s2), .val (.ref s3), .val (.double x), .second, .val (.int k), .val (.double y), .second, .val (.double z), .second] [(.int (1 : Int32))]) _
  refine ifN K d_prog_13_method_1_79 (by decide) (pc' := 82) rfl ?_
  refine Jvm.OwnWp.dload K d_prog_13_method_1_82 rfl (pc' := 84) rfl ?_
  refine Jvm.OwnWp.dconst0 K d_prog_13_method_1_84 (v := (0 : UInt64)) rfl (pc' := 85) rfl ?_
  refine Jvm.OwnWp.dcmp K d_prog_13_method_1_85 (pc' := 86) rfl ?_
  refine ifY K d_prog_13_method_1_86 (dd_g_gt_t (own_gt py)) (pc' := 103) (by decide) (by decide) ?_
  refine Jvm.OwnWp.dload K d_prog_13_method_1_103 rfl (pc' := 105) rfl ?_
  refine callStatic K (y := (⟨"java/lang/Double", "isFinite", "(D)Z"⟩ : MethodName)) (argsL := [(.double z)]) (S := []) (wd51 hw) (wd52 hw) (wd53 hw) (wd54 hw) (by decide) (c_fin l Z a0 hw [] z h14 n0 (Nat.le_trans Z0 P14.1) fz) (lenOf pd5 rfl) d_prog_13_method_1_105 rfl (Nat.le_of_ble_eq_true rfl) (Nat.le_of_ble_eq_true rfl) (Nat.le_of_ble_eq_true rfl) (Nat.le_of_ble_eq_true rfl) rfl (pc' := 108) rfl ?_
  rintro v18 h18 ⟨rfl, rfl⟩
  show GoE _ _ _ _ _ _ _ _ _ _ _ _ h14 6 92 (mkF m 108 #[.val (.ref b), .val (.ref s1), .val (.ref s2), .val (.ref s3), .val (.double x), .second, .val (.int k), .val (.double y), .second, .val (.double z), .second] [(.int (1 : Int32))]) _
  refine ifN K d_prog_13_method_1_108 (by decide) (pc' := 111) rfl ?_
  refine Jvm.OwnWp.dload K d_prog_13_method_1_111 rfl (pc' := 113) rfl ?_
  refine Jvm.OwnWp.dconst0 K d_prog_13_method_1_113 (v := (0 : UInt64)) rfl (pc' := 114) rfl ?_
  refine Jvm.OwnWp.dcmp K d_prog_13_method_1_114 (pc' := 115) rfl ?_
  refine ifY K d_prog_13_method_1_115 (dd_g_gt_t (own_gt pz)) (pc' := 132) (by decide) (by decide) ?_
  refine Jvm.OwnWp.aloadN K d_prog_13_method_1_132 rfl rfl (pc' := 133) rfl ?_
  refine Jvm.OwnWp.aloadN K d_prog_13_method_1_133 rfl rfl (pc' := 134) rfl ?_
  refine putf K (wd60 hw) Via.refl F14_id_b X14_b (Or.inr ⟨(wd61 hw), rfl, rfl⟩) (wd31 hw) (ty := (.object "java/lang/String")) (by decide) rfl rfl ge_b d_prog_13_method_1_134 (pc' := 137) rfl ?_
  intro h19 W19
  have F19_fromNodeId_b := (Fld.other W19 F14_fromNodeId_b (Or.inr (sn_Link_fromNodeId_id hw)))
  have F19_toNodeId_b := (Fld.other W19 F14_toNodeId_b (Or.inr (sn_Link_toNodeId_id hw)))
  have F19_length_b := (Fld.other W19 F14_length_b (Or.inr (sn_Link_length_id hw)))
  have F19_lanes_b := (Fld.other W19 F14_lanes_b (Or.inr (sn_Link_lanes_id hw)))
  have F19_freeSpeed_b := (Fld.other W19 F14_freeSpeed_b (Or.inr (sn_Link_freeSpeed_id hw)))
  have F19_outflowCapacity_b := (Fld.other W19 F14_outflowCapacity_b (Or.inr (sn_Link_outflowCapacity_id hw)))
  have X19_b := (Exa.wr W19 X14_b)
  have hk19_ := Nat.le_trans hk14 (Wr.grew W19)
  have P19 := (P14.wr W19 (Or.inl (List.mem_of_getElem? (i := 0) rfl)))
  have F19_id_b := Fld.same W19 F14_id_b
  refine Jvm.OwnWp.aloadN K d_prog_13_method_1_137 rfl rfl (pc' := 138) rfl ?_
  refine Jvm.OwnWp.aloadN K d_prog_13_method_1_138 rfl rfl (pc' := 139) rfl ?_
  refine putf K (wd62 hw) Via.refl F19_fromNodeId_b X19_b (Or.inr ⟨(wd63 hw), rfl, rfl⟩) (wd31 hw) (ty := (.object "java/lang/String")) (by decide) rfl rfl ge_b d_prog_13_method_1_139 (pc' := 142) rfl ?_
  intro h20 W20
  have F20_id_b := (Fld.other W20 F19_id_b (Or.inr (sn_Link_id_fromNodeId hw)))
  have F20_toNodeId_b := (Fld.other W20 F19_toNodeId_b (Or.inr (sn_Link_toNodeId_fromNodeId hw)))
  have F20_length_b := (Fld.other W20 F19_length_b (Or.inr (sn_Link_length_fromNodeId hw)))
  have F20_lanes_b := (Fld.other W20 F19_lanes_b (Or.inr (sn_Link_lanes_fromNodeId hw)))
  have F20_freeSpeed_b := (Fld.other W20 F19_freeSpeed_b (Or.inr (sn_Link_freeSpeed_fromNodeId hw)))
  have F20_outflowCapacity_b := (Fld.other W20 F19_outflowCapacity_b (Or.inr (sn_Link_outflowCapacity_fromNodeId hw)))
  have X20_b := (Exa.wr W20 X19_b)
  have hk20_ := Nat.le_trans hk19_ (Wr.grew W20)
  have P20 := (P19.wr W20 (Or.inl (List.mem_of_getElem? (i := 0) rfl)))
  have F20_fromNodeId_b := Fld.same W20 F19_fromNodeId_b
  refine Jvm.OwnWp.aloadN K d_prog_13_method_1_142 rfl rfl (pc' := 143) rfl ?_
  refine Jvm.OwnWp.aloadN K d_prog_13_method_1_143 rfl rfl (pc' := 144) rfl ?_
  refine putf K (wd64 hw) Via.refl F20_toNodeId_b X20_b (Or.inr ⟨(wd65 hw), rfl, rfl⟩) (wd31 hw) (ty := (.object "java/lang/String")) (by decide) rfl rfl ge_b d_prog_13_method_1_144 (pc' := 147) rfl ?_
  intro h21 W21
  have F21_id_b := (Fld.other W21 F20_id_b (Or.inr (sn_Link_id_toNodeId hw)))
  have F21_fromNodeId_b := (Fld.other W21 F20_fromNodeId_b (Or.inr (sn_Link_fromNodeId_toNodeId hw)))
  have F21_length_b := (Fld.other W21 F20_length_b (Or.inr (sn_Link_length_toNodeId hw)))
  have F21_lanes_b := (Fld.other W21 F20_lanes_b (Or.inr (sn_Link_lanes_toNodeId hw)))
  have F21_freeSpeed_b := (Fld.other W21 F20_freeSpeed_b (Or.inr (sn_Link_freeSpeed_toNodeId hw)))
  have F21_outflowCapacity_b := (Fld.other W21 F20_outflowCapacity_b (Or.inr (sn_Link_outflowCapacity_toNodeId hw)))
  have X21_b := (Exa.wr W21 X20_b)
  have hk21_ := Nat.le_trans hk20_ (Wr.grew W21)
  have P21 := (P20.wr W21 (Or.inl (List.mem_of_getElem? (i := 0) rfl)))
  have F21_toNodeId_b := Fld.same W21 F20_toNodeId_b
  refine Jvm.OwnWp.aloadN K d_prog_13_method_1_147 rfl rfl (pc' := 148) rfl ?_
  refine Jvm.OwnWp.dload K d_prog_13_method_1_148 rfl (pc' := 150) rfl ?_
  refine putf K (wd66 hw) Via.refl F21_length_b X21_b (Or.inr ⟨(wd67 hw), rfl, rfl⟩) (wd31 hw) (ty := .double) (by decide) rfl rfl ge_b d_prog_13_method_1_150 (pc' := 153) rfl ?_
  intro h22 W22
  have F22_id_b := (Fld.other W22 F21_id_b (Or.inr (sn_Link_id_length hw)))
  have F22_fromNodeId_b := (Fld.other W22 F21_fromNodeId_b (Or.inr (sn_Link_fromNodeId_length hw)))
  have F22_toNodeId_b := (Fld.other W22 F21_toNodeId_b (Or.inr (sn_Link_toNodeId_length hw)))
  have F22_lanes_b := (Fld.other W22 F21_lanes_b (Or.inr (sn_Link_lanes_length hw)))
  have F22_freeSpeed_b := (Fld.other W22 F21_freeSpeed_b (Or.inr (sn_Link_freeSpeed_length hw)))
  have F22_outflowCapacity_b := (Fld.other W22 F21_outflowCapacity_b (Or.inr (sn_Link_outflowCapacity_length hw)))
  have X22_b := (Exa.wr W22 X21_b)
  have hk22_ := Nat.le_trans hk21_ (Wr.grew W22)
  have P22 := (P21.wr W22 (Or.inl (List.mem_of_getElem? (i := 0) rfl)))
  have F22_length_b := Fld.same W22 F21_length_b
  refine Jvm.OwnWp.aloadN K d_prog_13_method_1_153 rfl rfl (pc' := 154) rfl ?_
  refine Jvm.OwnWp.iload K d_prog_13_method_1_154 rfl (pc' := 156) rfl ?_
  refine putf K (wd68 hw) Via.refl F22_lanes_b X22_b (Or.inr ⟨(wd69 hw), rfl, rfl⟩) (wd31 hw) (ty := .int) (by decide) rfl rfl ge_b d_prog_13_method_1_156 (pc' := 159) rfl ?_
  intro h23 W23
  have F23_id_b := (Fld.other W23 F22_id_b (Or.inr (sn_Link_id_lanes hw)))
  have F23_fromNodeId_b := (Fld.other W23 F22_fromNodeId_b (Or.inr (sn_Link_fromNodeId_lanes hw)))
  have F23_toNodeId_b := (Fld.other W23 F22_toNodeId_b (Or.inr (sn_Link_toNodeId_lanes hw)))
  have F23_length_b := (Fld.other W23 F22_length_b (Or.inr (sn_Link_length_lanes hw)))
  have F23_freeSpeed_b := (Fld.other W23 F22_freeSpeed_b (Or.inr (sn_Link_freeSpeed_lanes hw)))
  have F23_outflowCapacity_b := (Fld.other W23 F22_outflowCapacity_b (Or.inr (sn_Link_outflowCapacity_lanes hw)))
  have X23_b := (Exa.wr W23 X22_b)
  have hk23_ := Nat.le_trans hk22_ (Wr.grew W23)
  have P23 := (P22.wr W23 (Or.inl (List.mem_of_getElem? (i := 0) rfl)))
  have F23_lanes_b := Fld.same W23 F22_lanes_b
  refine Jvm.OwnWp.aloadN K d_prog_13_method_1_159 rfl rfl (pc' := 160) rfl ?_
  refine Jvm.OwnWp.dload K d_prog_13_method_1_160 rfl (pc' := 162) rfl ?_
  refine putf K (wd70 hw) Via.refl F23_freeSpeed_b X23_b (Or.inr ⟨(wd71 hw), rfl, rfl⟩) (wd31 hw) (ty := .double) (by decide) rfl rfl ge_b d_prog_13_method_1_162 (pc' := 165) rfl ?_
  intro h24 W24
  have F24_id_b := (Fld.other W24 F23_id_b (Or.inr (sn_Link_id_freeSpeed hw)))
  have F24_fromNodeId_b := (Fld.other W24 F23_fromNodeId_b (Or.inr (sn_Link_fromNodeId_freeSpeed hw)))
  have F24_toNodeId_b := (Fld.other W24 F23_toNodeId_b (Or.inr (sn_Link_toNodeId_freeSpeed hw)))
  have F24_length_b := (Fld.other W24 F23_length_b (Or.inr (sn_Link_length_freeSpeed hw)))
  have F24_lanes_b := (Fld.other W24 F23_lanes_b (Or.inr (sn_Link_lanes_freeSpeed hw)))
  have F24_outflowCapacity_b := (Fld.other W24 F23_outflowCapacity_b (Or.inr (sn_Link_outflowCapacity_freeSpeed hw)))
  have X24_b := (Exa.wr W24 X23_b)
  have hk24_ := Nat.le_trans hk23_ (Wr.grew W24)
  have P24 := (P23.wr W24 (Or.inl (List.mem_of_getElem? (i := 0) rfl)))
  have F24_freeSpeed_b := Fld.same W24 F23_freeSpeed_b
  refine Jvm.OwnWp.aloadN K d_prog_13_method_1_165 rfl rfl (pc' := 166) rfl ?_
  refine Jvm.OwnWp.dload K d_prog_13_method_1_166 rfl (pc' := 168) rfl ?_
  refine putf K (wd72 hw) Via.refl F24_outflowCapacity_b X24_b (Or.inr ⟨(wd73 hw), rfl, rfl⟩) (wd31 hw) (ty := .double) (by decide) rfl rfl ge_b d_prog_13_method_1_168 (pc' := 171) rfl ?_
  intro h25 W25
  have F25_id_b := (Fld.other W25 F24_id_b (Or.inr (sn_Link_id_outflowCapacity hw)))
  have F25_fromNodeId_b := (Fld.other W25 F24_fromNodeId_b (Or.inr (sn_Link_fromNodeId_outflowCapacity hw)))
  have F25_toNodeId_b := (Fld.other W25 F24_toNodeId_b (Or.inr (sn_Link_toNodeId_outflowCapacity hw)))
  have F25_length_b := (Fld.other W25 F24_length_b (Or.inr (sn_Link_length_outflowCapacity hw)))
  have F25_lanes_b := (Fld.other W25 F24_lanes_b (Or.inr (sn_Link_lanes_outflowCapacity hw)))
  have F25_freeSpeed_b := (Fld.other W25 F24_freeSpeed_b (Or.inr (sn_Link_freeSpeed_outflowCapacity hw)))
  have X25_b := (Exa.wr W25 X24_b)
  have hk25_ := Nat.le_trans hk24_ (Wr.grew W25)
  have P25 := (P24.wr W25 (Or.inl (List.mem_of_getElem? (i := 0) rfl)))
  have F25_outflowCapacity_b := Fld.same W25 F24_outflowCapacity_b
  refine retVS K hS hk25_ rfl d_prog_13_method_1_171 (Nat.le_of_ble_eq_true rfl) (Nat.le_of_ble_eq_true rfl) ?_
  exact ⟨rfl, P25, F25_outflowCapacity_b⟩
set_option maxRecDepth 65536 in
set_option maxHeartbeats 40000000 in
theorem c_cap (l : Launch) (Z : State) (a0 : Array Value) (hw : ∀ d ∈ tables_1, d.before a0 Z = true) (ws : List Jvm.Cond) (b : Addr) (z : UInt64) (h0 : Heap) (n0 : Nat) (Z0 : n0 ≤ h0.size) (F : Fld Z h0 b "com/example/errand_queue/errandqueue/network/Link" "outflowCapacity" "D" (.double z)) :
    Ctr l Z (⟨"com/example/errand_queue/errandqueue/network/Link", "outflowCapacity", "()D"⟩ : MethodName) prog_13_method_15_code 1 (some .double) ws ({ frames := 0, cells := 0, slots := 0, locals := 0 } : Room) n0 #[(.ref b)] h0 (fun v h => v = some (.double z) ∧ h0 = h) := by
  refine ctr (own := "com/example/errand_queue/errandqueue/network/Link") (nm := "outflowCapacity") rfl rfl (Ls := #[.val (.ref b)]) (plainFor_of_name pn5) (fun m => by first | (simp [entryFrame, mkF, argsToLocals, Value.category]; done) | rfl) ?_
  intro p e s m below meth c K eh
  refine Jvm.OwnWp.aloadN K d_prog_13_method_15_0 rfl rfl (pc' := 1) rfl ?_
  refine Jvm.OwnWp.getf K (wd72 hw) Via.refl F d_prog_13_method_15_1 (pc' := 4) rfl ?_
  refine retD K rfl d_prog_13_method_15_4 (Nat.le_of_ble_eq_true rfl) (Nat.le_of_ble_eq_true rfl) ?_
  exact ⟨rfl, rfl⟩
set_option maxRecDepth 65536 in
set_option maxHeartbeats 40000000 in
theorem c_sec (l : Launch) (Z : State) (a0 : Array Value) (hw : ∀ d ∈ tables_1, d.before a0 Z = true) (ws : List Jvm.Cond) (b : Addr) (z : UInt64) (h0 : Heap) (n0 : Nat) (Z0 : n0 ≤ h0.size) (F : Fld Z h0 b "com/example/errand_queue/errandqueue/network/TimeUnit" "seconds" "D" (.double z)) :
    Ctr l Z (⟨"com/example/errand_queue/errandqueue/network/TimeUnit", "seconds", "()D"⟩ : MethodName) prog_19_method_7_code 1 (some .double) ws ({ frames := 0, cells := 0, slots := 0, locals := 0 } : Room) n0 #[(.ref b)] h0 (fun v h => v = some (.double z) ∧ h0 = h) := by
  refine ctr (own := "com/example/errand_queue/errandqueue/network/TimeUnit") (nm := "seconds") rfl rfl (Ls := #[.val (.ref b)]) (plainFor_of_name pn6) (fun m => by first | (simp [entryFrame, mkF, argsToLocals, Value.category]; done) | rfl) ?_
  intro p e s m below meth c K eh
  refine Jvm.OwnWp.aloadN K d_prog_19_method_7_0 rfl rfl (pc' := 1) rfl ?_
  refine Jvm.OwnWp.getf K (wd92 hw) Via.refl F d_prog_19_method_7_1 (pc' := 4) rfl ?_
  refine retD K rfl d_prog_19_method_7_4 (Nat.le_of_ble_eq_true rfl) (Nat.le_of_ble_eq_true rfl) ?_
  exact ⟨rfl, rfl⟩
set_option maxRecDepth 65536 in
set_option maxHeartbeats 40000000 in
theorem c_ops (l : Launch) (Z : State) (a0 : Array Value) (hw : ∀ d ∈ tables_1, d.before a0 Z = true) (ws : List Jvm.Cond) (b uh : Addr) (z : UInt64) (h0 : Heap) (n0 : Nat) (Z0 : n0 ≤ h0.size) (O0 : Old Z n0 h0) (S_h : Sta Z Z.heap "com/example/errand_queue/errandqueue/network/TimeUnit" "HOUR" "Lcom/example/errand_queue/errandqueue/network/TimeUnit;" (.ref uh)) (E_h : Exa Z h0 uh "com/example/errand_queue/errandqueue/network/TimeUnit") (F_h : Fld Z h0 uh "com/example/errand_queue/errandqueue/network/TimeUnit" "seconds" "D" (.double 4660134898793709568)) (E : Exa Z h0 b "com/example/errand_queue/errandqueue/network/Link") (F : Fld Z h0 b "com/example/errand_queue/errandqueue/network/Link" "outflowCapacity" "D" (.double z)) (nn : Jvm.Free.Fl.NoNaN64 (FP.ddiv z 4660134898793709568)) :
    Ctr l Z (⟨"com/example/errand_queue/errandqueue/network/Link", "outflowPerSecond", "()D"⟩ : MethodName) prog_13_method_3_code 1 (some .double) ws ({ frames := 1, cells := 0, slots := 0, locals := 14 } : Room) n0 #[(.ref b)] h0 (fun v h => v = some (.double (FP.ddiv z 4660134898793709568)) ∧ h0 = h) := by
  refine ctr (own := "com/example/errand_queue/errandqueue/network/Link") (nm := "outflowPerSecond") rfl rfl (Ls := #[.val (.ref b)]) (plainFor_of_name pn5) (fun m => by first | (simp [entryFrame, mkF, argsToLocals, Value.category]; done) | rfl) ?_
  intro p e s m below meth c K eh
  refine Jvm.OwnWp.aloadN K d_prog_13_method_3_0 rfl rfl (pc' := 1) rfl ?_
  refine callVirt K (y := (⟨"com/example/errand_queue/errandqueue/network/Link", "outflowCapacity", "()D"⟩ : MethodName)) (b := b) (argsL := []) (S := []) (wd79 hw) (wd80 hw) (wd82 hw) (wd81 hw) (wd32 hw) (wd83 hw) (by decide) E (c_cap l Z a0 hw [] b z h0 n0 Z0 F) (lenOf pd6 rfl) d_prog_13_method_3_1 rfl (Nat.le_of_ble_eq_true rfl) (Nat.le_of_ble_eq_true rfl) (Nat.le_of_ble_eq_true rfl) (Nat.le_of_ble_eq_true rfl) rfl (pc' := 4) rfl ?_
  rintro v26 h26 ⟨rfl, rfl⟩
  show GoE _ _ _ _ _ _ _ _ _ _ _ _ h0 0 0 (mkF m 4 #[.val (.ref b)] [(.double z)]) _
  refine Jvm.OwnWp.gets K (wd84 hw) Via.refl (Sta.ext O0.2 S_h) d_prog_13_method_3_4 (pc' := 7) rfl ?_
  refine callVirt K (y := (⟨"com/example/errand_queue/errandqueue/network/TimeUnit", "seconds", "()D"⟩ : MethodName)) (b := uh) (argsL := []) (S := [(.double z)]) (wd87 hw) (wd88 hw) (wd90 hw) (wd89 hw) (wd85 hw) (wd91 hw) (by decide) E_h (c_sec l Z a0 hw [] uh 4660134898793709568 h0 n0 Z0 F_h) (lenOf pd6 rfl) d_prog_13_method_3_7 rfl (Nat.le_of_ble_eq_true rfl) (Nat.le_of_ble_eq_true rfl) (Nat.le_of_ble_eq_true rfl) (Nat.le_of_ble_eq_true rfl) rfl (pc' := 10) rfl ?_
  rintro v27 h27 ⟨rfl, rfl⟩
  show GoE _ _ _ _ _ _ _ _ _ _ _ _ h0 0 0 (mkF m 10 #[.val (.ref b)] [(.double (4660134898793709568 : UInt64)), (.double z)]) _
  refine Jvm.OwnWp.ddiv K d_prog_13_method_3_10 nn (pc' := 11) rfl ?_
  refine retD K rfl d_prog_13_method_3_11 (Nat.le_of_ble_eq_true rfl) (Nat.le_of_ble_eq_true rfl) ?_
  exact ⟨rfl, rfl⟩
theorem own_i2c (x : Int32) : ¬ 255 < (x &&& 255).toUInt32.toUInt16.toUInt32.toInt32 := by
  obtain ⟨a1, a2⟩ := c_and x 255 (by decide)
  obtain ⟨b1, b2, b3⟩ := c_i2c (x &&& 255)
  simp only [Int32.reduceToInt] at a2
  rw [Int32.lt_iff_toInt_lt]
  simp only [Int32.reduceToInt]
  omega
theorem own_one : (Jvm.FP.Core.one64 : Int) = 9007199254740992 * ((2 ^ 1021 : Nat) : Int) := by decide +kernel
theorem own_zv1 : Jvm.FP.Core.zval Jvm.FP.Core.b64 (Jvm.FP.Core.val64 4746794007248502784) = 19342813113834066795298816 * ((2 ^ 1021 : Nat) : Int) := by decide +kernel
theorem own_zv2 : Jvm.FP.Core.zval Jvm.FP.Core.b64 (Jvm.FP.Core.val64 4593671619917905920) = 1125899906842624 * ((2 ^ 1021 : Nat) : Int) := by decide +kernel
theorem own_qfin {q : UInt64} (hn : Jvm.FP.Core.val64 q ≠ .nan) (h1 : 0 ≤ Jvm.FP.Core.zval Jvm.FP.Core.b64 (Jvm.FP.Core.val64 q)) (h2 : Jvm.FP.Core.zval Jvm.FP.Core.b64 (Jvm.FP.Core.val64 q) ≤ Jvm.FP.Core.zval Jvm.FP.Core.b64 (Jvm.FP.Core.val64 4746794007248502784)) : Jvm.Free.Fl.Fin64 q := Jvm.Free.Fl.fin64_core.mpr (by
  cases hv : Jvm.FP.Core.val64 q with
  | nan => exact absurd hv hn
  | fin s c e => exact ⟨s, c, e, hv⟩
  | inf s =>
    rw [hv] at h1 h2
    cases s
    · exact absurd h2 (by decide +kernel)
    · exact absurd h1 (by decide +kernel))
/-- a quotient of 1 .. 2^30 by 1 .. 8 is finite and positive -/
theorem own_quot {x y : Int32} (h1 : 1 ≤ x.toInt) (h2 : x.toInt ≤ 1073741824) (h3 : 1 ≤ y.toInt) (h4 : y.toInt ≤ 8) : Jvm.Free.Fl.Fin64 (FP.ddiv (FP.i2d x) (FP.i2d y)) ∧ FP.dcmp (FP.ddiv (FP.i2d x) (FP.i2d y)) 0 = some .gt := by
  have ha := Jvm.FP.Core.i2d_int x
  have hb := Jvm.FP.Core.i2d_int y
  have hP : (0 : Int) < ((2 ^ 1021 : Nat) : Int) := by have := Nat.two_pow_pos 1021; omega
  obtain ⟨n1, l1⟩ := Jvm.OwnFl.ddiv_le (V := 4746794007248502784) ha hb (by omega) (by omega) (by decide +kernel) (by
    rw [own_zv1, own_one]
    generalize ((2 ^ 1021 : Nat) : Int) = P at *
    have : x.toInt * 9007199254740992 ≤ 19342813113834066795298816 * y.toInt := by omega
    calc x.toInt * (9007199254740992 * P) = (x.toInt * 9007199254740992) * P := by rw [Int.mul_assoc]
      _ ≤ (19342813113834066795298816 * y.toInt) * P := Int.mul_le_mul_of_nonneg_right this (Int.le_of_lt hP)
      _ = 19342813113834066795298816 * P * y.toInt := by rw [Int.mul_assoc, Int.mul_comm y.toInt, ← Int.mul_assoc])
  have l2 := Jvm.OwnFl.ddiv_ge (V := 4593671619917905920) ha hb (by omega) (by omega) (by decide +kernel) (by
    rw [own_zv2, own_one]
    generalize ((2 ^ 1021 : Nat) : Int) = P at *
    have : 1125899906842624 * y.toInt ≤ x.toInt * 9007199254740992 := by omega
    calc 1125899906842624 * P * y.toInt = (1125899906842624 * y.toInt) * P := by rw [Int.mul_assoc, Int.mul_comm P, ← Int.mul_assoc]
      _ ≤ (x.toInt * 9007199254740992) * P := Int.mul_le_mul_of_nonneg_right this (Int.le_of_lt hP)
      _ = x.toInt * (9007199254740992 * P) := by rw [Int.mul_assoc])
  have hp : (0 : Int) < Jvm.FP.Core.zval Jvm.FP.Core.b64 (Jvm.FP.Core.val64 (Jvm.FP.Core.ddiv (Jvm.FP.Core.i2d x) (Jvm.FP.Core.i2d y))) := by
    rw [own_zv2] at l2; generalize ((2 ^ 1021 : Nat) : Int) = P at *; omega
  exact ⟨own_qfin n1 (Int.le_of_lt hp) l1, Jvm.FP.Core.dcmp_gt.mpr ⟨n1, by decide +kernel, by rw [Jvm.FP.Core.zval64_zero]; exact hp⟩⟩
theorem own_k4 : (4616189618054758400 : UInt64) = FP.i2d 4 := by decide +kernel
theorem own_k3600 : Jvm.FP.Core.DInt 3600 4660134898793709568 := by
  show Jvm.FP.Core.DInt (3600 : Int32).toInt _
  rw [show (4660134898793709568 : UInt64) = Jvm.FP.Core.i2d 3600 by decide +kernel]; exact Jvm.FP.Core.i2d_int 3600
theorem own_d0 : Jvm.FP.Core.DInt 0 0 := by
  show Jvm.FP.Core.DInt (0 : Int32).toInt _
  rw [show (0 : UInt64) = Jvm.FP.Core.i2d 0 by decide +kernel]; exact Jvm.FP.Core.i2d_int 0
theorem own_len (x : Int32) (h : 0 ≤ x.toInt) : ¬ FP.dcmp (FP.i2d x) 0 = some .lt := by
  have e := Jvm.FP.Core.dcmp_int (Jvm.FP.Core.i2d_int x) own_d0
  intro q
  have e2 := (show FP.dcmp (FP.i2d x) 0 = _ from e).symm.trans q
  have e3 : compare x.toInt (0 : Int) = .lt := Option.some.inj e2
  rw [Int.compare_eq_lt] at e3; omega
theorem own_gt0 (x : Int32) (h : 0 < x.toInt) : FP.dcmp (FP.i2d x) 0 = some .gt := by
  have e := Jvm.FP.Core.dcmp_int (Jvm.FP.Core.i2d_int x) own_d0
  have e3 : compare x.toInt (0 : Int) = .gt := by rw [Int.compare_eq_gt]; exact h
  exact (show FP.dcmp (FP.i2d x) 0 = _ from e).trans (by rw [e3])
/-- a number of 1 .. m + 1 -/
theorem own_rng (x m : Int32) (hm : 0 ≤ m.toInt) (hm2 : m.toInt ≤ 1073741823) : 1 ≤ (1 + (x &&& m)).toInt ∧ (1 + (x &&& m)).toInt ≤ m.toInt + 1 := by
  obtain ⟨a1, a2⟩ := c_and x m hm
  have e := c_iadd 1 (x &&& m)
  have r := rng32 (1 + (x &&& m))
  simp only [Int32.reduceToInt] at e
  omega
theorem own_whole (k : Int32) (h1 : 1 ≤ k.toInt) (h2 : k.toInt ≤ 65536) : Jvm.Free.Fl.Fin64 (FP.i2d (3600 * k)) ∧ FP.dcmp (FP.i2d (3600 * k)) 0 = some .gt ∧ Jvm.Free.Fl.NoNaN64 (FP.ddiv (FP.i2d (3600 * k)) 4660134898793709568) ∧ FP.dcmp (FP.ddiv (FP.i2d (3600 * k)) 4660134898793709568) (FP.i2d k) = some .eq := by
  have e : (3600 * k).toInt = 3600 * k.toInt := by
    have e := c_imul 3600 k
    have r := rng32 (3600 * k)
    simp only [Int32.reduceToInt] at e
    omega
  have a4 := Jvm.OwnFl.ddiv_int (Jvm.FP.Core.i2d_int (3600 * k)) own_k3600 (by decide) (k := k.toInt) (by rw [e]; omega) (by omega)
  have a5 := Jvm.FP.Core.dcmp_int a4 (Jvm.FP.Core.i2d_int k)
  rw [Jvm.FP.Core.compare_self_int] at a5
  exact ⟨Jvm.Free.Fl.i2d_fin _, own_gt0 _ (by omega), Jvm.OwnFl.dint_nn a4, a5⟩
theorem own_nn36 {z : UInt64} (h : Jvm.Free.Fl.Fin64 z) : Jvm.Free.Fl.NoNaN64 (FP.ddiv z 4660134898793709568) := Jvm.Free.Fl.ddiv_out h.noNaN (by unfold Jvm.Free.Fl.Fin64; decide) (by unfold Jvm.Free.Fl.Nz64; decide)
set_option maxRecDepth 65536 in
set_option maxHeartbeats 40000000 in
theorem c_law (l : Launch) (Z : State) (a0 : Array Value) (hw : ∀ d ∈ tables_1, d.before a0 Z = true) (ws : List Jvm.Cond) (p0 p1 p2 p3 p4 p5 cs : Int32) (uh : Addr) (h0 : Heap) (n0 : Nat) (Z0 : n0 ≤ h0.size) (O0 : Old Z n0 h0) (S_cs : Sta Z Z.heap "java/lang/String" "COMPACT_STRINGS" "Z" (.int cs)) (ncs : cs ≠ 0) (S_h : Sta Z Z.heap "com/example/errand_queue/errandqueue/network/TimeUnit" "HOUR" "Lcom/example/errand_queue/errandqueue/network/TimeUnit;" (.ref uh)) (E_h : Exa Z h0 uh "com/example/errand_queue/errandqueue/network/TimeUnit") (F_h : Fld Z h0 uh "com/example/errand_queue/errandqueue/network/TimeUnit" "seconds" "D" (.double 4660134898793709568)) :
    CtrW l Z x code maxLocals ret ws room_1 n0 #[(.int p0), (.int p1), (.int p2), (.int p3), (.int p4), (.int p5)] h0 (fun v h => v = some (.int 1)) := by
  refine ctrW (own := "com/example/errand_queue/errandqueue/network/LinkOutflowPerSecondPinLaw") (nm := "law") rfl rfl (Ls := #[.val (.int p0), .val (.int p1), .val (.int p2), .val (.int p3), .val (.int p4), .val (.int p5), .unset, .unset, .unset, .unset, .unset, .unset, .unset, .unset, .unset, .unset, .unset, .unset, .unset, .unset, .unset, .unset]) (plainFor_of_name pn7) (fun m => by first | (simp [entryFrame, mkF, argsToLocals, Value.category, maxLocals]; done) | rfl) ?_
  intro p e s m below meth c vm0 K eh hS
  have hk0 : 0 ≤ h0.size := Nat.zero_le _
  have P0 := Keep.refl h0 []
  refine Jvm.OwnWp.iload K at_0 rfl (pc' := 2) rfl ?_
  refine Jvm.OwnWp.sipush K (255 : Int32) at_2 (by decide) (pc' := 5) rfl ?_
  refine Jvm.OwnWp.iand K at_5 (pc' := 6) rfl ?_
  refine Jvm.OwnWp.i2c K at_6 (pc' := 7) rfl ?_
  refine callStatic K (y := (⟨"java/lang/String", "valueOf", "(C)Ljava/lang/String;"⟩ : MethodName)) (argsL := [(.int ((p5 &&& (255 : Int32))).toUInt32.toUInt16.toUInt32.toInt32)]) (S := []) (wd0 hw) (wd1 hw) (wd2 hw) (wd3 hw) (by decide) (c_vof l Z a0 hw [] ((p5 &&& (255 : Int32))).toUInt32.toUInt16.toUInt32.toInt32 cs h0 n0 Z0 O0 S_cs ncs (own_i2c _)) (lenOf pd7 rfl) at_7 rfl (Nat.le_of_ble_eq_true rfl) (Nat.le_of_ble_eq_true rfl) (Nat.le_of_ble_eq_true rfl) (Nat.le_of_ble_eq_true rfl) rfl (pc' := 10) rfl ?_
  rintro v28 h28 ⟨x28, rfl, L28, K28⟩
  have ne_uh_x28 : uh ≠ x28 := Nat.ne_of_lt (Nat.lt_of_lt_of_le (Exa.lt E_h) L28)
  have lt_x28 : h0.size ≤ x28 := Nat.le_trans P0.1 L28
  have ge_x28 : n0 ≤ x28 := Nat.le_trans Z0 lt_x28
  have F28_seconds_uh := (Fld.keep F_h K28 (nin0))
  have X28_uh := (Exa.keep E_h K28)
  have hk28_ := Nat.le_trans hk0 K28.1
  have O28 := (O0.keep K28 (all0))
  have P28 := (P0.trans K28 (all0))
  show GoE _ _ _ _ _ _ _ _ _ _ _ _ h28 2 5 (mkF m 10 #[.val (.int p0), .val (.int p1), .val (.int p2), .val (.int p3), .val (.int p4), .val (.int p5), .unset, .unset, .unset, .unset, .unset, .unset, .unset, .unset, .unset, .unset, .unset, .unset, .unset, .unset, .unset, .unset] [(.ref x28)]) _
  refine Jvm.OwnWp.astore K at_10 rfl (Ls' := #[.val (.int p0), .val (.int p1), .val (.int p2), .val (.int p3), .val (.int p4), .val (.int p5), .val (.ref x28), .unset, .unset, .unset, .unset, .unset, .unset, .unset, .unset, .unset, .unset, .unset, .unset, .unset, .unset, .unset]) rfl (pc' := 12) rfl ?_
  refine Jvm.OwnWp.iload K at_12 rfl (pc' := 14) rfl ?_
  refine Jvm.OwnWp.bipush K (8 : Int32) at_14 (by decide) (pc' := 16) rfl ?_
  refine Jvm.OwnWp.iushr K at_16 (pc' := 17) rfl ?_
  refine Jvm.OwnWp.sipush K (255 : Int32) at_17 (by decide) (pc' := 20) rfl ?_
  refine Jvm.OwnWp.iand K at_20 (pc' := 21) rfl ?_
  refine Jvm.OwnWp.i2c K at_21 (pc' := 22) rfl ?_
  refine callStatic K (y := (⟨"java/lang/String", "valueOf", "(C)Ljava/lang/String;"⟩ : MethodName)) (argsL := [(.int ((((p5.toUInt32 >>> ((8 : Int32) &&& 31).toUInt32).toInt32) &&& (255 : Int32))).toUInt32.toUInt16.toUInt32.toInt32)]) (S := []) (wd0 hw) (wd1 hw) (wd2 hw) (wd3 hw) (by decide) (c_vof l Z a0 hw [] ((((p5.toUInt32 >>> ((8 : Int32) &&& 31).toUInt32).toInt32) &&& (255 : Int32))).toUInt32.toUInt16.toUInt32.toInt32 cs h28 n0 (Nat.le_trans Z0 P28.1) O28 S_cs ncs (own_i2c _)) (lenOf pd7 rfl) at_22 rfl (Nat.le_of_ble_eq_true rfl) (Nat.le_of_ble_eq_true rfl) (Nat.le_of_ble_eq_true rfl) (Nat.le_of_ble_eq_true rfl) rfl (pc' := 25) rfl ?_
  rintro v29 h29 ⟨x29, rfl, L29, K29⟩
  have ne_uh_x29 : uh ≠ x29 := Nat.ne_of_lt (Nat.lt_of_lt_of_le (Exa.lt X28_uh) L29)
  have lt_x29 : h0.size ≤ x29 := Nat.le_trans P28.1 L29
  have ge_x29 : n0 ≤ x29 := Nat.le_trans Z0 lt_x29
  have F29_seconds_uh := (Fld.keep F28_seconds_uh K29 (nin0))
  have X29_uh := (Exa.keep X28_uh K29)
  have hk29_ := Nat.le_trans hk28_ K29.1
  have O29 := (O28.keep K29 (all0))
  have P29 := (P28.trans K29 (all0))
  show GoE _ _ _ _ _ _ _ _ _ _ _ _ h29 4 10 (mkF m 25 #[.val (.int p0), .val (.int p1), .val (.int p2), .val (.int p3), .val (.int p4), .val (.int p5), .val (.ref x28), .unset, .unset, .unset, .unset, .unset, .unset, .unset, .unset, .unset, .unset, .unset, .unset, .unset, .unset, .unset] [(.ref x29)]) _
  refine Jvm.OwnWp.astore K at_25 rfl (Ls' := #[.val (.int p0), .val (.int p1), .val (.int p2), .val (.int p3), .val (.int p4), .val (.int p5), .val (.ref x28), .val (.ref x29), .unset, .unset, .unset, .unset, .unset, .unset, .unset, .unset, .unset, .unset, .unset, .unset, .unset, .unset]) rfl (pc' := 27) rfl ?_
  refine Jvm.OwnWp.iload K at_27 rfl (pc' := 29) rfl ?_
  refine Jvm.OwnWp.bipush K (16 : Int32) at_29 (by decide) (pc' := 31) rfl ?_
  refine Jvm.OwnWp.iushr K at_31 (pc' := 32) rfl ?_
  refine Jvm.OwnWp.sipush K (255 : Int32) at_32 (by decide) (pc' := 35) rfl ?_
  refine Jvm.OwnWp.iand K at_35 (pc' := 36) rfl ?_
  refine Jvm.OwnWp.i2c K at_36 (pc' := 37) rfl ?_
  refine callStatic K (y := (⟨"java/lang/String", "valueOf", "(C)Ljava/lang/String;"⟩ : MethodName)) (argsL := [(.int ((((p5.toUInt32 >>> ((16 : Int32) &&& 31).toUInt32).toInt32) &&& (255 : Int32))).toUInt32.toUInt16.toUInt32.toInt32)]) (S := []) (wd0 hw) (wd1 hw) (wd2 hw) (wd3 hw) (by decide) (c_vof l Z a0 hw [] ((((p5.toUInt32 >>> ((16 : Int32) &&& 31).toUInt32).toInt32) &&& (255 : Int32))).toUInt32.toUInt16.toUInt32.toInt32 cs h29 n0 (Nat.le_trans Z0 P29.1) O29 S_cs ncs (own_i2c _)) (lenOf pd7 rfl) at_37 rfl (Nat.le_of_ble_eq_true rfl) (Nat.le_of_ble_eq_true rfl) (Nat.le_of_ble_eq_true rfl) (Nat.le_of_ble_eq_true rfl) rfl (pc' := 40) rfl ?_
  rintro v30 h30 ⟨x30, rfl, L30, K30⟩
  have ne_uh_x30 : uh ≠ x30 := Nat.ne_of_lt (Nat.lt_of_lt_of_le (Exa.lt X29_uh) L30)
  have lt_x30 : h0.size ≤ x30 := Nat.le_trans P29.1 L30
  have ge_x30 : n0 ≤ x30 := Nat.le_trans Z0 lt_x30
  have F30_seconds_uh := (Fld.keep F29_seconds_uh K30 (nin0))
  have X30_uh := (Exa.keep X29_uh K30)
  have hk30_ := Nat.le_trans hk29_ K30.1
  have O30 := (O29.keep K30 (all0))
  have P30 := (P29.trans K30 (all0))
  show GoE _ _ _ _ _ _ _ _ _ _ _ _ h30 6 15 (mkF m 40 #[.val (.int p0), .val (.int p1), .val (.int p2), .val (.int p3), .val (.int p4), .val (.int p5), .val (.ref x28), .val (.ref x29), .unset, .unset, .unset, .unset, .unset, .unset, .unset, .unset, .unset, .unset, .unset, .unset, .unset, .unset] [(.ref x30)]) _
  refine Jvm.OwnWp.astore K at_40 rfl (Ls' := #[.val (.int p0), .val (.int p1), .val (.int p2), .val (.int p3), .val (.int p4), .val (.int p5), .val (.ref x28), .val (.ref x29), .val (.ref x30), .unset, .unset, .unset, .unset, .unset, .unset, .unset, .unset, .unset, .unset, .unset, .unset, .unset]) rfl (pc' := 42) rfl ?_
  refine Jvm.OwnWp.iloadN K at_42 rfl (pc' := 43) rfl ?_
  refine Jvm.OwnWp.ldcI K (wd26 hw) at_43 (pc' := 45) rfl ?_
  refine Jvm.OwnWp.iand K at_45 (pc' := 46) rfl ?_
  have hl := own_len (p0 &&& (1048575 : Int32)) (c_and p0 1048575 (by decide)).1
  refine Jvm.OwnWp.i2d K at_46 (pc' := 47) rfl ?_
  refine Jvm.OwnWp.dstore K at_47 (Ls' := #[.val (.int p0), .val (.int p1), .val (.int p2), .val (.int p3), .val (.int p4), .val (.int p5), .val (.ref x28), .val (.ref x29), .val (.ref x30), .val (.double (FP.i2d (p0 &&& (1048575 : Int32)))), .second, .unset, .unset, .unset, .unset, .unset, .unset, .unset, .unset, .unset, .unset, .unset]) rfl (pc' := 49) rfl ?_
  refine Jvm.OwnWp.iconst K (1 : Int32) at_49 (by decide) (pc' := 50) rfl ?_
  refine Jvm.OwnWp.iloadN K at_50 rfl (pc' := 51) rfl ?_
  refine Jvm.OwnWp.sipush K (255 : Int32) at_51 (by decide) (pc' := 54) rfl ?_
  refine Jvm.OwnWp.iand K at_54 (pc' := 55) rfl ?_
  refine Jvm.OwnWp.iadd K at_55 (pc' := 56) rfl ?_
  refine Jvm.OwnWp.istore K at_56 (Ls' := #[.val (.int p0), .val (.int p1), .val (.int p2), .val (.int p3), .val (.int p4), .val (.int p5), .val (.ref x28), .val (.ref x29), .val (.ref x30), .val (.double (FP.i2d (p0 &&& (1048575 : Int32)))), .second, .val (.int ((1 : Int32) + (p1 &&& (255 : Int32)))), .unset, .unset, .unset, .unset, .unset, .unset, .unset, .unset, .unset, .unset]) rfl (pc' := 58) rfl ?_
  refine Jvm.OwnWp.iconst K (1 : Int32) at_58 (by decide) (pc' := 59) rfl ?_
  refine Jvm.OwnWp.iloadN K at_59 rfl (pc' := 60) rfl ?_
  refine Jvm.OwnWp.ldcI K (wd27 hw) at_60 (pc' := 62) rfl ?_
  refine Jvm.OwnWp.iand K at_62 (pc' := 63) rfl ?_
  refine Jvm.OwnWp.iadd K at_63 (pc' := 64) rfl ?_
  have r1 := own_rng p1 255 (by decide) (by decide)
  have r2 := own_rng p2 65535 (by decide) (by decide)
  obtain ⟨fy, py⟩ := own_quot (x := ((1 : Int32) + (p2 &&& (65535 : Int32)))) (y := 4) r2.1 (Int.le_trans r2.2 (by decide)) (by decide) (by decide)
  rw [← own_k4] at fy py
  refine Jvm.OwnWp.i2d K at_64 (pc' := 65) rfl ?_
  refine Jvm.OwnWp.ldc2D K (wd28 hw) at_65 (pc' := 68) rfl ?_
  refine Jvm.OwnWp.ddiv K at_68 fy.noNaN (pc' := 69) rfl ?_
  refine Jvm.OwnWp.dstore K at_69 (Ls' := #[.val (.int p0), .val (.int p1), .val (.int p2), .val (.int p3), .val (.int p4), .val (.int p5), .val (.ref x28), .val (.ref x29), .val (.ref x30), .val (.double (FP.i2d (p0 &&& (1048575 : Int32)))), .second, .val (.int ((1 : Int32) + (p1 &&& (255 : Int32)))), .val (.double (FP.ddiv (FP.i2d ((1 : Int32) + (p2 &&& (65535 : Int32)))) (4616189618054758400 : UInt64))), .second, .unset, .unset, .unset, .unset, .unset, .unset, .unset, .unset]) rfl (pc' := 71) rfl ?_
  refine Jvm.OwnWp.iconst K (1 : Int32) at_71 (by decide) (pc' := 72) rfl ?_
  refine Jvm.OwnWp.iloadN K at_72 rfl (pc' := 73) rfl ?_
  refine Jvm.OwnWp.ldcI K (wd29 hw) at_73 (pc' := 75) rfl ?_
  refine Jvm.OwnWp.iand K at_75 (pc' := 76) rfl ?_
  refine Jvm.OwnWp.iadd K at_76 (pc' := 77) rfl ?_
  refine Jvm.OwnWp.istore K at_77 (Ls' := #[.val (.int p0), .val (.int p1), .val (.int p2), .val (.int p3), .val (.int p4), .val (.int p5), .val (.ref x28), .val (.ref x29), .val (.ref x30), .val (.double (FP.i2d (p0 &&& (1048575 : Int32)))), .second, .val (.int ((1 : Int32) + (p1 &&& (255 : Int32)))), .val (.double (FP.ddiv (FP.i2d ((1 : Int32) + (p2 &&& (65535 : Int32)))) (4616189618054758400 : UInt64))), .second, .val (.int ((1 : Int32) + (p3 &&& (1073741823 : Int32)))), .unset, .unset, .unset, .unset, .unset, .unset, .unset]) rfl (pc' := 79) rfl ?_
  refine Jvm.OwnWp.iload K at_79 rfl (pc' := 81) rfl ?_
  refine Jvm.OwnWp.i2d K at_81 (pc' := 82) rfl ?_
  refine Jvm.OwnWp.iconst K (1 : Int32) at_82 (by decide) (pc' := 83) rfl ?_
  refine Jvm.OwnWp.iload K at_83 rfl (pc' := 85) rfl ?_
  refine Jvm.OwnWp.bipush K (7 : Int32) at_85 (by decide) (pc' := 87) rfl ?_
  refine Jvm.OwnWp.iand K at_87 (pc' := 88) rfl ?_
  refine Jvm.OwnWp.iadd K at_88 (pc' := 89) rfl ?_
  refine Jvm.OwnWp.i2d K at_89 (pc' := 90) rfl ?_
  have r3 := own_rng p3 1073741823 (by decide) (by decide)
  have r4 := own_rng p4 7 (by decide) (by decide)
  obtain ⟨fz, pz⟩ := own_quot (x := ((1 : Int32) + (p3 &&& (1073741823 : Int32)))) (y := (1 : Int32) + (p4 &&& (7 : Int32))) r3.1 (Int.le_trans r3.2 (by decide)) r4.1 (Int.le_trans r4.2 (by decide))
  refine Jvm.OwnWp.ddiv K at_90 fz.noNaN (pc' := 91) rfl ?_
  refine Jvm.OwnWp.dstore K at_91 (Ls' := #[.val (.int p0), .val (.int p1), .val (.int p2), .val (.int p3), .val (.int p4), .val (.int p5), .val (.ref x28), .val (.ref x29), .val (.ref x30), .val (.double (FP.i2d (p0 &&& (1048575 : Int32)))), .second, .val (.int ((1 : Int32) + (p1 &&& (255 : Int32)))), .val (.double (FP.ddiv (FP.i2d ((1 : Int32) + (p2 &&& (65535 : Int32)))) (4616189618054758400 : UInt64))), .second, .val (.int ((1 : Int32) + (p3 &&& (1073741823 : Int32)))), .val (.double (FP.ddiv (FP.i2d ((1 : Int32) + (p3 &&& (1073741823 : Int32)))) (FP.i2d ((1 : Int32) + (p4 &&& (7 : Int32)))))), .second, .unset, .unset, .unset, .unset, .unset]) rfl (pc' := 93) rfl ?_
  refine newObj K (wd30 hw) (wd31 hw) (wd32 hw) at_93 (by decide) (by decide) (pc' := 96) rfl ?_
  intro h31 b31 g31 E31 A31 D31
  have ne_uh_b31 : uh ≠ b31 := Nat.ne_of_lt (Nat.lt_of_lt_of_eq (Exa.lt X30_uh) g31.symm)
  have lt_b31 : h0.size ≤ b31 := Nat.le_trans P30.1 (Nat.le_of_eq g31.symm)
  have ge_b31 : n0 ≤ b31 := Nat.le_trans Z0 lt_b31
  have F31_seconds_uh := (Fld.ext E31 F30_seconds_uh)
  have X31_uh := (Exa.ext E31 X30_uh)
  have hk31_ := Nat.le_trans hk30_ E31.1
  have O31 := (O30.ext E31)
  have P31 := (P30.ext E31)
  have F31_id_b31 : Fld Z h31 b31 "com/example/errand_queue/errandqueue/network/Link" "id" "Ljava/lang/String;" .null := D31 (Or.inr (wd61 hw)) (ty := (.object "java/lang/String")) (by decide)
  have F31_fromNodeId_b31 : Fld Z h31 b31 "com/example/errand_queue/errandqueue/network/Link" "fromNodeId" "Ljava/lang/String;" .null := D31 (Or.inr (wd63 hw)) (ty := (.object "java/lang/String")) (by decide)
  have F31_toNodeId_b31 : Fld Z h31 b31 "com/example/errand_queue/errandqueue/network/Link" "toNodeId" "Ljava/lang/String;" .null := D31 (Or.inr (wd65 hw)) (ty := (.object "java/lang/String")) (by decide)
  have F31_length_b31 : Fld Z h31 b31 "com/example/errand_queue/errandqueue/network/Link" "length" "D" (.double (0 : UInt64)) := D31 (Or.inr (wd67 hw)) (ty := .double) (by decide)
  have F31_lanes_b31 : Fld Z h31 b31 "com/example/errand_queue/errandqueue/network/Link" "lanes" "I" (.int (0 : Int32)) := D31 (Or.inr (wd69 hw)) (ty := .int) (by decide)
  have F31_freeSpeed_b31 : Fld Z h31 b31 "com/example/errand_queue/errandqueue/network/Link" "freeSpeed" "D" (.double (0 : UInt64)) := D31 (Or.inr (wd71 hw)) (ty := .double) (by decide)
  have F31_outflowCapacity_b31 : Fld Z h31 b31 "com/example/errand_queue/errandqueue/network/Link" "outflowCapacity" "D" (.double (0 : UInt64)) := D31 (Or.inr (wd73 hw)) (ty := .double) (by decide)
  refine Jvm.OwnWp.dup K at_96 rfl (pc' := 97) rfl ?_
  refine Jvm.OwnWp.aload K at_97 rfl rfl (pc' := 99) rfl ?_
  refine Jvm.OwnWp.aload K at_99 rfl rfl (pc' := 101) rfl ?_
  refine Jvm.OwnWp.aload K at_101 rfl rfl (pc' := 103) rfl ?_
  refine Jvm.OwnWp.dload K at_103 rfl (pc' := 105) rfl ?_
  refine Jvm.OwnWp.iload K at_105 rfl (pc' := 107) rfl ?_
  refine Jvm.OwnWp.dload K at_107 rfl (pc' := 109) rfl ?_
  refine Jvm.OwnWp.dload K at_109 rfl (pc' := 111) rfl ?_
  have hk1 : ¬ ((1 : Int32) + (p1 &&& (255 : Int32))) < 1 := by rw [Int32.lt_iff_toInt_lt]; simp only [Int32.reduceToInt]; have := r1.1; omega
  refine callInitS K hS hk31_ (y := (⟨"com/example/errand_queue/errandqueue/network/Link", "<init>", "(Ljava/lang/String;Ljava/lang/String;Ljava/lang/String;DIDD)V"⟩ : MethodName)) (b := b31) (argsL := [(.ref x28), (.ref x29), (.ref x30), (.double (FP.i2d (p0 &&& (1048575 : Int32)))), (.int ((1 : Int32) + (p1 &&& (255 : Int32)))), (.double (FP.ddiv (FP.i2d ((1 : Int32) + (p2 &&& (65535 : Int32)))) (4616189618054758400 : UInt64))), (.double (FP.ddiv (FP.i2d ((1 : Int32) + (p3 &&& (1073741823 : Int32)))) (FP.i2d ((1 : Int32) + (p4 &&& (7 : Int32))))))]) (S := [(.ref b31)]) rfl (wd33 hw) (wd34 hw) (wd32 hw) (wd35 hw) rfl (by decide) (c_lin l Z a0 hw [] b31 x28 x29 x30 (FP.i2d (p0 &&& (1048575 : Int32))) (FP.ddiv (FP.i2d ((1 : Int32) + (p2 &&& (65535 : Int32)))) (4616189618054758400 : UInt64)) (FP.ddiv (FP.i2d ((1 : Int32) + (p3 &&& (1073741823 : Int32)))) (FP.i2d ((1 : Int32) + (p4 &&& (7 : Int32))))) ((1 : Int32) + (p1 &&& (255 : Int32))) h31 n0 (Nat.le_trans Z0 P31.1) A31 ge_b31 F31_id_b31 F31_fromNodeId_b31 F31_toNodeId_b31 F31_length_b31 F31_lanes_b31 F31_freeSpeed_b31 F31_outflowCapacity_b31 (Jvm.Free.Fl.i2d_fin _) fy fz hl py pz hk1) (lenOf pd8 rfl) at_111 rfl (Nat.le_of_ble_eq_true rfl) (Nat.le_of_ble_eq_true rfl) (Nat.le_of_ble_eq_true rfl) (Nat.le_of_ble_eq_true rfl) rfl (pc' := 114) rfl ?_
  rintro v32 vm32 h32 k32 K hS hk32 ⟨rfl, K32, Q32⟩
  have F32_seconds_uh := (Fld.keep F31_seconds_uh K32 (ninS ne_uh_b31 (nin0)))
  have X32_uh := (Exa.keep X31_uh K32)
  have X32_b31 := (Exa.keep A31 K32)
  have hk32_ := Nat.le_trans hk31_ K32.1
  have O32 := (O31.keep K32 (allS ge_b31 (all0)))
  have P32 := (P31.trans K32 (allS (Or.inr lt_b31) (all0)))
  show GoE _ _ _ _ _ _ _ _ _ _ _ _ h32 13 114 (mkF m 114 #[.val (.int p0), .val (.int p1), .val (.int p2), .val (.int p3), .val (.int p4), .val (.int p5), .val (.ref x28), .val (.ref x29), .val (.ref x30), .val (.double (FP.i2d (p0 &&& (1048575 : Int32)))), .second, .val (.int ((1 : Int32) + (p1 &&& (255 : Int32)))), .val (.double (FP.ddiv (FP.i2d ((1 : Int32) + (p2 &&& (65535 : Int32)))) (4616189618054758400 : UInt64))), .second, .val (.int ((1 : Int32) + (p3 &&& (1073741823 : Int32)))), .val (.double (FP.ddiv (FP.i2d ((1 : Int32) + (p3 &&& (1073741823 : Int32)))) (FP.i2d ((1 : Int32) + (p4 &&& (7 : Int32)))))), .second, .unset, .unset, .unset, .unset, .unset] [(.ref b31)]) _
  refine Jvm.OwnWp.astore K at_114 rfl (Ls' := #[.val (.int p0), .val (.int p1), .val (.int p2), .val (.int p3), .val (.int p4), .val (.int p5), .val (.ref x28), .val (.ref x29), .val (.ref x30), .val (.double (FP.i2d (p0 &&& (1048575 : Int32)))), .second, .val (.int ((1 : Int32) + (p1 &&& (255 : Int32)))), .val (.double (FP.ddiv (FP.i2d ((1 : Int32) + (p2 &&& (65535 : Int32)))) (4616189618054758400 : UInt64))), .second, .val (.int ((1 : Int32) + (p3 &&& (1073741823 : Int32)))), .val (.double (FP.ddiv (FP.i2d ((1 : Int32) + (p3 &&& (1073741823 : Int32)))) (FP.i2d ((1 : Int32) + (p4 &&& (7 : Int32)))))), .second, .val (.ref b31), .unset, .unset, .unset, .unset]) rfl (pc' := 116) rfl ?_
  refine Jvm.OwnWp.aload K at_116 rfl rfl (pc' := 118) rfl ?_
  have n1 := own_nn36 fz
  refine callVirt K (y := (⟨"com/example/errand_queue/errandqueue/network/Link", "outflowPerSecond", "()D"⟩ : MethodName)) (b := b31) (argsL := []) (S := []) (wd74 hw) (wd75 hw) (wd77 hw) (wd76 hw) (wd32 hw) (wd78 hw) (by decide) X32_b31 (c_ops l Z a0 hw [] b31 uh (FP.ddiv (FP.i2d ((1 : Int32) + (p3 &&& (1073741823 : Int32)))) (FP.i2d ((1 : Int32) + (p4 &&& (7 : Int32))))) h32 n0 (Nat.le_trans Z0 P32.1) O32 S_h X32_uh F32_seconds_uh X32_b31 Q32 n1) (lenOf pd6 rfl) at_118 rfl (Nat.le_of_ble_eq_true rfl) (Nat.le_of_ble_eq_true rfl) (Nat.le_of_ble_eq_true rfl) (Nat.le_of_ble_eq_true rfl) rfl (pc' := 121) rfl ?_
  rintro v33 h33 ⟨rfl, rfl⟩
  show GoE _ _ _ _ _ _ _ _ _ _ _ _ h32 13 114 (mkF m 121 #[.val (.int p0), .val (.int p1), .val (.int p2), .val (.int p3), .val (.int p4), .val (.int p5), .val (.ref x28), .val (.ref x29), .val (.ref x30), .val (.double (FP.i2d (p0 &&& (1048575 : Int32)))), .second, .val (.int ((1 : Int32) + (p1 &&& (255 : Int32)))), .val (.double (FP.ddiv (FP.i2d ((1 : Int32) + (p2 &&& (65535 : Int32)))) (4616189618054758400 : UInt64))), .second, .val (.int ((1 : Int32) + (p3 &&& (1073741823 : Int32)))), .val (.double (FP.ddiv (FP.i2d ((1 : Int32) + (p3 &&& (1073741823 : Int32)))) (FP.i2d ((1 : Int32) + (p4 &&& (7 : Int32)))))), .second, .val (.ref b31), .unset, .unset, .unset, .unset] [(.double (FP.ddiv (FP.ddiv (FP.i2d ((1 : Int32) + (p3 &&& (1073741823 : Int32)))) (FP.i2d ((1 : Int32) + (p4 &&& (7 : Int32))))) 4660134898793709568))]) _
  refine Jvm.OwnWp.dload K at_121 rfl (pc' := 123) rfl ?_
  refine Jvm.OwnWp.ldc2D K (wd94 hw) at_123 (pc' := 126) rfl ?_
  refine Jvm.OwnWp.ddiv K at_126 n1 (pc' := 127) rfl ?_
  refine Jvm.OwnWp.dcmp K at_127 (pc' := 128) rfl ?_
  refine ifN K at_128 (by rw [dcmpV_self n1]; rfl) (pc' := 131) rfl ?_
  refine Jvm.OwnWp.iconst K (1 : Int32) at_131 (by decide) (pc' := 132) rfl ?_
  refine goto' K at_132 (pc' := 136) (by decide) (by decide) ?_
  refine Jvm.OwnWp.istore K at_136 (Ls' := #[.val (.int p0), .val (.int p1), .val (.int p2), .val (.int p3), .val (.int p4), .val (.int p5), .val (.ref x28), .val (.ref x29), .val (.ref x30), .val (.double (FP.i2d (p0 &&& (1048575 : Int32)))), .second, .val (.int ((1 : Int32) + (p1 &&& (255 : Int32)))), .val (.double (FP.ddiv (FP.i2d ((1 : Int32) + (p2 &&& (65535 : Int32)))) (4616189618054758400 : UInt64))), .second, .val (.int ((1 : Int32) + (p3 &&& (1073741823 : Int32)))), .val (.double (FP.ddiv (FP.i2d ((1 : Int32) + (p3 &&& (1073741823 : Int32)))) (FP.i2d ((1 : Int32) + (p4 &&& (7 : Int32)))))), .second, .val (.ref b31), .val (.int (1 : Int32)), .unset, .unset, .unset]) rfl (pc' := 138) rfl ?_
  refine Jvm.OwnWp.iconst K (1 : Int32) at_138 (by decide) (pc' := 139) rfl ?_
  refine Jvm.OwnWp.iload K at_139 rfl (pc' := 141) rfl ?_
  refine Jvm.OwnWp.iconst K (3 : Int32) at_141 (by decide) (pc' := 142) rfl ?_
  refine Jvm.OwnWp.iushr K at_142 (pc' := 143) rfl ?_
  refine Jvm.OwnWp.ldcI K (wd27 hw) at_143 (pc' := 145) rfl ?_
  refine Jvm.OwnWp.iand K at_145 (pc' := 146) rfl ?_
  refine Jvm.OwnWp.iadd K at_146 (pc' := 147) rfl ?_
  have r5 := own_rng ((p4.toUInt32 >>> ((3 : Int32) &&& 31).toUInt32).toInt32) 65535 (by decide) (by decide)
  obtain ⟨fw, pw, n2, eq2⟩ := own_whole ((1 : Int32) + (((p4.toUInt32 >>> ((3 : Int32) &&& 31).toUInt32).toInt32) &&& (65535 : Int32))) r5.1 r5.2
  refine Jvm.OwnWp.istore K at_147 (Ls' := #[.val (.int p0), .val (.int p1), .val (.int p2), .val (.int p3), .val (.int p4), .val (.int p5), .val (.ref x28), .val (.ref x29), .val (.ref x30), .val (.double (FP.i2d (p0 &&& (1048575 : Int32)))), .second, .val (.int ((1 : Int32) + (p1 &&& (255 : Int32)))), .val (.double (FP.ddiv (FP.i2d ((1 : Int32) + (p2 &&& (65535 : Int32)))) (4616189618054758400 : UInt64))), .second, .val (.int ((1 : Int32) + (p3 &&& (1073741823 : Int32)))), .val (.double (FP.ddiv (FP.i2d ((1 : Int32) + (p3 &&& (1073741823 : Int32)))) (FP.i2d ((1 : Int32) + (p4 &&& (7 : Int32)))))), .second, .val (.ref b31), .val (.int (1 : Int32)), .val (.int ((1 : Int32) + (((p4.toUInt32 >>> ((3 : Int32) &&& 31).toUInt32).toInt32) &&& (65535 : Int32)))), .unset, .unset]) rfl (pc' := 149) rfl ?_
  refine newObj K (wd30 hw) (wd31 hw) (wd32 hw) at_149 (by decide) (by decide) (pc' := 152) rfl ?_
  intro h34 b34 g34 E34 A34 D34
  have ne_uh_b34 : uh ≠ b34 := Nat.ne_of_lt (Nat.lt_of_lt_of_eq (Exa.lt X32_uh) g34.symm)
  have ne_b31_b34 : b31 ≠ b34 := Nat.ne_of_lt (Nat.lt_of_lt_of_eq (Exa.lt X32_b31) g34.symm)
  have lt_b34 : h0.size ≤ b34 := Nat.le_trans P32.1 (Nat.le_of_eq g34.symm)
  have ge_b34 : n0 ≤ b34 := Nat.le_trans Z0 lt_b34
  have F34_seconds_uh := (Fld.ext E34 F32_seconds_uh)
  have F34_outflowCapacity_b31 := (Fld.ext E34 Q32)
  have X34_uh := (Exa.ext E34 X32_uh)
  have X34_b31 := (Exa.ext E34 X32_b31)
  have hk34_ := Nat.le_trans hk32 E34.1
  have O34 := (O32.ext E34)
  have P34 := (P32.ext E34)
  have F34_id_b34 : Fld Z h34 b34 "com/example/errand_queue/errandqueue/network/Link" "id" "Ljava/lang/String;" .null := D34 (Or.inr (wd61 hw)) (ty := (.object "java/lang/String")) (by decide)
  have F34_fromNodeId_b34 : Fld Z h34 b34 "com/example/errand_queue/errandqueue/network/Link" "fromNodeId" "Ljava/lang/String;" .null := D34 (Or.inr (wd63 hw)) (ty := (.object "java/lang/String")) (by decide)
  have F34_toNodeId_b34 : Fld Z h34 b34 "com/example/errand_queue/errandqueue/network/Link" "toNodeId" "Ljava/lang/String;" .null := D34 (Or.inr (wd65 hw)) (ty := (.object "java/lang/String")) (by decide)
  have F34_length_b34 : Fld Z h34 b34 "com/example/errand_queue/errandqueue/network/Link" "length" "D" (.double (0 : UInt64)) := D34 (Or.inr (wd67 hw)) (ty := .double) (by decide)
  have F34_lanes_b34 : Fld Z h34 b34 "com/example/errand_queue/errandqueue/network/Link" "lanes" "I" (.int (0 : Int32)) := D34 (Or.inr (wd69 hw)) (ty := .int) (by decide)
  have F34_freeSpeed_b34 : Fld Z h34 b34 "com/example/errand_queue/errandqueue/network/Link" "freeSpeed" "D" (.double (0 : UInt64)) := D34 (Or.inr (wd71 hw)) (ty := .double) (by decide)
  have F34_outflowCapacity_b34 : Fld Z h34 b34 "com/example/errand_queue/errandqueue/network/Link" "outflowCapacity" "D" (.double (0 : UInt64)) := D34 (Or.inr (wd73 hw)) (ty := .double) (by decide)
  refine Jvm.OwnWp.dup K at_152 rfl (pc' := 153) rfl ?_
  refine Jvm.OwnWp.aload K at_153 rfl rfl (pc' := 155) rfl ?_
  refine Jvm.OwnWp.aload K at_155 rfl rfl (pc' := 157) rfl ?_
  refine Jvm.OwnWp.aload K at_157 rfl rfl (pc' := 159) rfl ?_
  refine Jvm.OwnWp.dload K at_159 rfl (pc' := 161) rfl ?_
  refine Jvm.OwnWp.iload K at_161 rfl (pc' := 163) rfl ?_
  refine Jvm.OwnWp.dload K at_163 rfl (pc' := 165) rfl ?_
  refine Jvm.OwnWp.sipush K (3600 : Int32) at_165 (by decide) (pc' := 168) rfl ?_
  refine Jvm.OwnWp.iload K at_168 rfl (pc' := 170) rfl ?_
  refine Jvm.OwnWp.imul K at_170 (pc' := 171) rfl ?_
  refine Jvm.OwnWp.i2d K at_171 (pc' := 172) rfl ?_
  refine callInitS K hS hk34_ (y := (⟨"com/example/errand_queue/errandqueue/network/Link", "<init>", "(Ljava/lang/String;Ljava/lang/String;Ljava/lang/String;DIDD)V"⟩ : MethodName)) (b := b34) (argsL := [(.ref x28), (.ref x29), (.ref x30), (.double (FP.i2d (p0 &&& (1048575 : Int32)))), (.int ((1 : Int32) + (p1 &&& (255 : Int32)))), (.double (FP.ddiv (FP.i2d ((1 : Int32) + (p2 &&& (65535 : Int32)))) (4616189618054758400 : UInt64))), (.double (FP.i2d ((3600 : Int32) * ((1 : Int32) + (((p4.toUInt32 >>> ((3 : Int32) &&& 31).toUInt32).toInt32) &&& (65535 : Int32))))))]) (S := [(.ref b34)]) rfl (wd33 hw) (wd34 hw) (wd32 hw) (wd35 hw) rfl (by decide) (c_lin l Z a0 hw [] b34 x28 x29 x30 (FP.i2d (p0 &&& (1048575 : Int32))) (FP.ddiv (FP.i2d ((1 : Int32) + (p2 &&& (65535 : Int32)))) (4616189618054758400 : UInt64)) (FP.i2d ((3600 : Int32) * ((1 : Int32) + (((p4.toUInt32 >>> ((3 : Int32) &&& 31).toUInt32).toInt32) &&& (65535 : Int32))))) ((1 : Int32) + (p1 &&& (255 : Int32))) h34 n0 (Nat.le_trans Z0 P34.1) A34 ge_b34 F34_id_b34 F34_fromNodeId_b34 F34_toNodeId_b34 F34_length_b34 F34_lanes_b34 F34_freeSpeed_b34 F34_outflowCapacity_b34 (Jvm.Free.Fl.i2d_fin _) fy fw hl py pw hk1) (lenOf pd8 rfl) at_172 rfl (Nat.le_of_ble_eq_true rfl) (Nat.le_of_ble_eq_true rfl) (Nat.le_of_ble_eq_true rfl) (Nat.le_of_ble_eq_true rfl) rfl (pc' := 175) rfl ?_
  rintro v35 vm35 h35 k35 K hS hk35 ⟨rfl, K35, Q35⟩
  have F35_seconds_uh := (Fld.keep F34_seconds_uh K35 (ninS ne_uh_b34 (nin0)))
  have F35_outflowCapacity_b31 := (Fld.keep F34_outflowCapacity_b31 K35 (ninS ne_b31_b34 (nin0)))
  have X35_uh := (Exa.keep X34_uh K35)
  have X35_b31 := (Exa.keep X34_b31 K35)
  have X35_b34 := (Exa.keep A34 K35)
  have hk35_ := Nat.le_trans hk34_ K35.1
  have O35 := (O34.keep K35 (allS ge_b34 (all0)))
  have P35 := (P34.trans K35 (allS (Or.inr lt_b34) (all0)))
  show GoE _ _ _ _ _ _ _ _ _ _ _ _ h35 20 213 (mkF m 175 #[.val (.int p0), .val (.int p1), .val (.int p2), .val (.int p3), .val (.int p4), .val (.int p5), .val (.ref x28), .val (.ref x29), .val (.ref x30), .val (.double (FP.i2d (p0 &&& (1048575 : Int32)))), .second, .val (.int ((1 : Int32) + (p1 &&& (255 : Int32)))), .val (.double (FP.ddiv (FP.i2d ((1 : Int32) + (p2 &&& (65535 : Int32)))) (4616189618054758400 : UInt64))), .second, .val (.int ((1 : Int32) + (p3 &&& (1073741823 : Int32)))), .val (.double (FP.ddiv (FP.i2d ((1 : Int32) + (p3 &&& (1073741823 : Int32)))) (FP.i2d ((1 : Int32) + (p4 &&& (7 : Int32)))))), .second, .val (.ref b31), .val (.int (1 : Int32)), .val (.int ((1 : Int32) + (((p4.toUInt32 >>> ((3 : Int32) &&& 31).toUInt32).toInt32) &&& (65535 : Int32)))), .unset, .unset] [(.ref b34)]) _
  refine Jvm.OwnWp.astore K at_175 rfl (Ls' := #[.val (.int p0), .val (.int p1), .val (.int p2), .val (.int p3), .val (.int p4), .val (.int p5), .val (.ref x28), .val (.ref x29), .val (.ref x30), .val (.double (FP.i2d (p0 &&& (1048575 : Int32)))), .second, .val (.int ((1 : Int32) + (p1 &&& (255 : Int32)))), .val (.double (FP.ddiv (FP.i2d ((1 : Int32) + (p2 &&& (65535 : Int32)))) (4616189618054758400 : UInt64))), .second, .val (.int ((1 : Int32) + (p3 &&& (1073741823 : Int32)))), .val (.double (FP.ddiv (FP.i2d ((1 : Int32) + (p3 &&& (1073741823 : Int32)))) (FP.i2d ((1 : Int32) + (p4 &&& (7 : Int32)))))), .second, .val (.ref b31), .val (.int (1 : Int32)), .val (.int ((1 : Int32) + (((p4.toUInt32 >>> ((3 : Int32) &&& 31).toUInt32).toInt32) &&& (65535 : Int32)))), .val (.ref b34), .unset]) rfl (pc' := 177) rfl ?_
  refine Jvm.OwnWp.aload K at_177 rfl rfl (pc' := 179) rfl ?_
  refine callVirt K (y := (⟨"com/example/errand_queue/errandqueue/network/Link", "outflowPerSecond", "()D"⟩ : MethodName)) (b := b34) (argsL := []) (S := []) (wd74 hw) (wd75 hw) (wd77 hw) (wd76 hw) (wd32 hw) (wd78 hw) (by decide) X35_b34 (c_ops l Z a0 hw [] b34 uh (FP.i2d ((3600 : Int32) * ((1 : Int32) + (((p4.toUInt32 >>> ((3 : Int32) &&& 31).toUInt32).toInt32) &&& (65535 : Int32))))) h35 n0 (Nat.le_trans Z0 P35.1) O35 S_h X35_uh F35_seconds_uh X35_b34 Q35 n2) (lenOf pd6 rfl) at_179 rfl (Nat.le_of_ble_eq_true rfl) (Nat.le_of_ble_eq_true rfl) (Nat.le_of_ble_eq_true rfl) (Nat.le_of_ble_eq_true rfl) rfl (pc' := 182) rfl ?_
  rintro v36 h36 ⟨rfl, rfl⟩
  show GoE _ _ _ _ _ _ _ _ _ _ _ _ h35 20 213 (mkF m 182 #[.val (.int p0), .val (.int p1), .val (.int p2), .val (.int p3), .val (.int p4), .val (.int p5), .val (.ref x28), .val (.ref x29), .val (.ref x30), .val (.double (FP.i2d (p0 &&& (1048575 : Int32)))), .second, .val (.int ((1 : Int32) + (p1 &&& (255 : Int32)))), .val (.double (FP.ddiv (FP.i2d ((1 : Int32) + (p2 &&& (65535 : Int32)))) (4616189618054758400 : UInt64))), .second, .val (.int ((1 : Int32) + (p3 &&& (1073741823 : Int32)))), .val (.double (FP.ddiv (FP.i2d ((1 : Int32) + (p3 &&& (1073741823 : Int32)))) (FP.i2d ((1 : Int32) + (p4 &&& (7 : Int32)))))), .second, .val (.ref b31), .val (.int (1 : Int32)), .val (.int ((1 : Int32) + (((p4.toUInt32 >>> ((3 : Int32) &&& 31).toUInt32).toInt32) &&& (65535 : Int32)))), .val (.ref b34), .unset] [(.double (FP.ddiv (FP.i2d ((3600 : Int32) * ((1 : Int32) + (((p4.toUInt32 >>> ((3 : Int32) &&& 31).toUInt32).toInt32) &&& (65535 : Int32))))) 4660134898793709568))]) _
  refine Jvm.OwnWp.iload K at_182 rfl (pc' := 184) rfl ?_
  refine Jvm.OwnWp.i2d K at_184 (pc' := 185) rfl ?_
  refine Jvm.OwnWp.dcmp K at_185 (pc' := 186) rfl ?_
  refine ifN K at_186 (dd_l_ne_f eq2) (pc' := 189) rfl ?_
  refine Jvm.OwnWp.iconst K (1 : Int32) at_189 (by decide) (pc' := 190) rfl ?_
  refine goto' K at_190 (pc' := 194) (by decide) (by decide) ?_
  refine Jvm.OwnWp.istore K at_194 (Ls' := #[.val (.int p0), .val (.int p1), .val (.int p2), .val (.int p3), .val (.int p4), .val (.int p5), .val (.ref x28), .val (.ref x29), .val (.ref x30), .val (.double (FP.i2d (p0 &&& (1048575 : Int32)))), .second, .val (.int ((1 : Int32) + (p1 &&& (255 : Int32)))), .val (.double (FP.ddiv (FP.i2d ((1 : Int32) + (p2 &&& (65535 : Int32)))) (4616189618054758400 : UInt64))), .second, .val (.int ((1 : Int32) + (p3 &&& (1073741823 : Int32)))), .val (.double (FP.ddiv (FP.i2d ((1 : Int32) + (p3 &&& (1073741823 : Int32)))) (FP.i2d ((1 : Int32) + (p4 &&& (7 : Int32)))))), .second, .val (.ref b31), .val (.int (1 : Int32)), .val (.int ((1 : Int32) + (((p4.toUInt32 >>> ((3 : Int32) &&& 31).toUInt32).toInt32) &&& (65535 : Int32)))), .val (.ref b34), .val (.int (1 : Int32))]) rfl (pc' := 196) rfl ?_
  refine Jvm.OwnWp.iload K at_196 rfl (pc' := 198) rfl ?_
  refine ifN K at_198 (by decide) (pc' := 201) rfl ?_
  refine Jvm.OwnWp.iload K at_201 rfl (pc' := 203) rfl ?_
  refine ifN K at_203 (by decide) (pc' := 206) rfl ?_
  refine Jvm.OwnWp.iconst K (1 : Int32) at_206 (by decide) (pc' := 207) rfl ?_
  refine goto' K at_207 (pc' := 211) (by decide) (by decide) ?_
  refine retBS K hS hk35 rfl rfl at_211 (Nat.le_of_ble_eq_true rfl) (Nat.le_of_ble_eq_true rfl) ?_
  rfl
theorem own_ne0 {args : Array Value} {s : State} {t : Term} {x : Int32} (ev : t.eval args s none [] s = some (.int x)) (h : (Cond.not (Cond.eq t (Term.int 0))).before args s = true) : x ≠ 0 := by
  rintro rfl
  have h2 := Cond.before_iff.mp h
  simp [Cond.value, ev, Term.eval] at h2
set_option maxRecDepth 65536 in
set_option maxHeartbeats 40000000 in
theorem comes_1 {Post : Tables → Env → Array Value → State → Outcome → State → Prop} (hpost : ∀ tb e args s v u, (limb_1_1.after args s (.returned v) u = true ∧ limb_1_2.after args s (.returned v) u = true ∧ True) → ReturnedEndW s (.returned v) u (Jvm.fieldLocs frame_1_writes args s ++ Jvm.arrayLocs frame_1_arrays args s ++ Jvm.staticLocs frame_1_statics s) 32 3264 → Post tb e args s (.returned v) u) :
    ArmFor flags0 classFile x code maxLocals ret World_1 tables_1 room_1 Calls_1 rest_1 Pre_1 Post := by
  intro l hfl _ _ p e ha hc hk s m args below hf hA hF happ hP
  obtain ⟨hcalls, hrest, hpre⟩ := hP
  obtain ⟨-, -, -, hnamed, -, -, -, hat⟩ := (Spec.applies_iff hf).mp happ
  obtain ⟨hg, hn⟩ := and_e (Cond.before_iff.mp (show (Jvm.Cond.and given_1 narrow_1).before args s = true from hpre))
  obtain ⟨q0, r0⟩ := and_e hg
  obtain ⟨q1, r1⟩ := and_e r0
  obtain ⟨q2, r2⟩ := and_e r1
  obtain ⟨q3, r3⟩ := and_e r2
  obtain ⟨q4, r4⟩ := and_e r3
  obtain ⟨q5, r5⟩ := and_e r4
  have q6 := r5
  obtain ⟨w0, w1, w2, w3, w4, w5, rfl⟩ : ∃ w0 w1 w2 w3 w4 w5 : Value, args = #[w0, w1, w2, w3, w4, w5] := by
    have hs : args.size = 6 := by simpa [Cond.value, given_1] using q0
    obtain ⟨L⟩ := args
    match L, hs with
    | [w0, w1, w2, w3, w4, w5], _ => exact ⟨w0, w1, w2, w3, w4, w5, rfl⟩
  have hw := fun d (hd : d ∈ tables_1) => atoms_spec (ws := Jvm.Cond.code x code maxLocals ret :: tables_1) hat d (List.mem_cons_of_mem _ hd)
  have hfit : Fit s := fun {y c} hc i hi => by
    obtain ⟨ha, rfl⟩ := Array.getElem?_eq_some_iff.mp hc
    have q := List.all_eq_true.mp ((Array.all_eq_true_iff_forall_mem.mp hF) _ (Array.getElem_mem ha)) i (List.mem_range.mpr hi)
    simpa [Array.getElem?_eq_getElem hi] using q
  obtain ⟨i0, e0⟩ := is_v q1
  obtain rfl : w0 = (.int i0) := Option.some.inj e0
  obtain ⟨i1, e1⟩ := is_v q2
  obtain rfl : w1 = (.int i1) := Option.some.inj e1
  obtain ⟨i2, e2⟩ := is_v q3
  obtain rfl : w2 = (.int i2) := Option.some.inj e2
  obtain ⟨i3, e3⟩ := is_v q4
  obtain rfl : w3 = (.int i3) := Option.some.inj e3
  obtain ⟨i4, e4⟩ := is_v q5
  obtain rfl : w4 = (.int i4) := Option.some.inj e4
  obtain ⟨i5, e5⟩ := is_v q6
  obtain rfl : w5 = (.int i5) := Option.some.inj e5
  obtain ⟨nq0, hn⟩ := and_e hn
  have nq1 := hn
  have hsets := (atoms_of (own := restOwn_1) jdkStatics_1 (by rw [← rest_1_c_eq]; exact hrest)).1
  obtain ⟨uh, ev_uh⟩ := exa_v nq0
  have T_h := Sta.start ev_uh (Or.inr ⟨(wd85 hw), (wd86 hw)⟩)
  have X_h := Exa.start ev_uh nq0
  have Y_h := Fld.start ((fld_at ev_uh).symm.trans (eqD nq1 rfl))
  obtain ⟨cs, ev_cs⟩ := is_v (Cond.before_iff.mp (hsets _ (List.mem_of_getElem? (i := 1) rfl)))
  have T_cs := Sta.start ev_cs (Or.inl (hsets _ (List.mem_of_getElem? (i := 0) rfl)))
  have ncs : cs ≠ 0 := own_ne0 ev_cs (hsets _ (List.mem_of_getElem? (i := 2) rfl))
  obtain ⟨n, o, h1, h2, h3, _, L, rfl, ⟨rfl, N⟩, hq⟩ := c_law l s _ hw tables_1 i0 i1 i2 i3 i4 i5 cs uh s.heap s.heap.size (Nat.le_refl _) (Old.start s) T_cs ncs T_h X_h Y_h p e ha hc hk s m _ below hf ((Spec.applies_iff_loose hf).mp happ).1 ⟨rfl, State.Warmed39.refl s, rfl⟩ trivial
  refine ⟨n, _, h1, h2, h3, hpost _ _ _ _ _ _ ⟨Cond.after_iff.mpr rfl, Cond.after_iff.mpr (eq_i res_at (Term.int_eval (1)) rfl), trivial⟩ ⟨hq.1, hq.2.1, hq.2.2.1, (hq.2.2.2.sift fun y hy => Or.inr (N y hy)).mono (by decide) (by decide)⟩⟩
theorem main_1_1 : Claimed_1_1 := comes_1 fun _ _ _ _ _ _ h hF => ⟨h.1, hF⟩
theorem main_1_2 : Claimed_1_2 := comes_1 fun _ _ _ _ _ _ h hF => ⟨h.2.1, hF⟩
end Jvm.Pilot.@@N@@
namespace Jvm.Pilot.@@N@@
open Jvm Jvm.ClassFile Sem Op Lib Jvm.Free Jvm.Stand Jvm.Pilot.@@N@@.Jvm.D
/-! MADE BY PROGRAM (witnessworld.py) out of the Statement's table words and the real class files: 22 classes; the members and pool entries that the words name. The judged class is class 1, her method 1. -/
namespace start1
open Jvm.ClassFile
def u (s : String) : CpInfo := .utf8 (stringToUtf16 s)
/-- a pool by its gaps: so many unusable entries, then the entry; so many at the end -/
def gap : Nat → List CpInfo → List CpInfo
  | 0, r => r
  | n + 1, r => .unusable :: gap n r
def poolList (es : List (Nat × CpInfo)) (last : Nat) : List CpInfo := es.foldr (fun e r => gap e.1 (e.2 :: r)) (gap last [])
def pool (es : List (Nat × CpInfo)) (last : Nat) : Array CpInfo := ⟨poolList es last⟩
def fileOf (pool : Array CpInfo) (this : Nat) (attrs : Array Attribute := #[]) (ms : Array MethodInfo := #[]) (fl : Nat := 33) (sup : Nat := 0) (ifs : Array Nat := #[]) (fds : Array FieldInfo := #[]) : ClassFile where
  minorVersion := 0
  majorVersion := 65
  constantPool := pool
  accessFlags := fl
  thisClass := this
  superClass := sup
  interfaces := ifs
  fields := fds
  methods := ms
  attributes := attrs
def plain (name : String) (sup : Option ClassId) : Class where
  name := name
  kind := .ordinary
  loader := none
  accessFlags := 33
  super := sup
  interfaces := #[]
  cf := none
  fields := #[]
  methods := #[]
  instanceTypes := #[]
  staticTypes := #[]
  resolved := #[]
  callSites := []
  init := .initialized
  statics := none
  mirror := none

def pool0 : Array CpInfo := pool [(5, u "<init>"), (0, u "()V"), (1, .class_ 10), (1, u "java/lang/Object")] 113

def k0c0 : Code := { maxStack := 0, maxLocals := 1, code := object_method_1_code, exceptionTable := #[], attributes := #[] }
def k0m0 : Method := { name := "<init>", desc := "()V", sig := { parameters := [], returnType := none }, accessFlags := 1, code := some k0c0 }
/-- java/lang/Object -/
def k0 : Class := { plain "java/lang/Object" none with
  accessFlags := 33
  interfaces := #[]
  cf := some (fileOf pool0 8 #[] #[{ accessFlags := 1, nameIndex := 5, descriptorIndex := 6, attributes := #[] }] 33 0 #[] #[])
  fields := #[]
  methods := #[k0m0]
  instanceTypes := #[]
  staticTypes := #[]
  resolved := Array.replicate 124 none
  statics := none }

def pool1 : Array CpInfo := pool [(2, .class_ 4), (1, u "java/lang/Object"), (0, u "<init>"), (0, u "()V"), (0, .methodref 8 9), (0, .class_ 10), (0, .nameAndType 11 12), (0, u "java/lang/String"), (0, u "valueOf"), (0, u "(C)Ljava/lang/String;"), (0, .integer 1048575), (0, .integer 65535), (0, .double 4616189618054758400), (1, .integer 1073741823), (0, .class_ 19), (0, u "com/example/errand_queue/errandqueue/network/Link"), (0, .methodref 18 21), (0, .nameAndType 5 22), (0, u "(Ljava/lang/String;Ljava/lang/String;Ljava/lang/String;DIDD)V"), (0, .methodref 18 24), (0, .nameAndType 25 26), (0, u "outflowPerSecond"), (0, u "()D"), (0, .double 4660134898793709568), (1, .class_ 30), (0, u "com/example/errand_queue/errandqueue/network/LinkOutflowPerSecondPinLaw"), (2, u "law"), (0, u "(IIIIII)Z")] 3

def k1m0 : Method := { name := "<init>", desc := "()V", sig := { parameters := [], returnType := none }, accessFlags := 2, code := none }
def k1c1 : Code := { maxStack := 12, maxLocals := 22, code := code, exceptionTable := #[], attributes := #[] }
def k1m1 : Method := { name := "law", desc := "(IIIIII)Z", sig := { parameters := [.int, .int, .int, .int, .int, .int], returnType := some .boolean }, accessFlags := 9, code := some k1c1 }
/-- com/example/errand_queue/errandqueue/network/LinkOutflowPerSecondPinLaw -/
def k1 : Class := { plain "com/example/errand_queue/errandqueue/network/LinkOutflowPerSecondPinLaw" (some 0) with
  accessFlags := 49
  interfaces := #[]
  cf := some (fileOf pool1 29 #[] #[{ accessFlags := 2, nameIndex := 5, descriptorIndex := 6, attributes := #[] }, { accessFlags := 9, nameIndex := 33, descriptorIndex := 34, attributes := #[] }] 49 2 #[] #[])
  fields := #[]
  methods := #[k1m0, k1m1]
  instanceTypes := #[]
  staticTypes := #[]
  resolved := Array.replicate 38 none
  statics := none }

def pool2 : Array CpInfo := pool [(1, .class_ 2), (0, u "java/io/Serializable"), (0, .class_ 4), (0, u "java/lang/Object")] 2

/-- java/io/Serializable -/
def k2 : Class := { plain "java/io/Serializable" (some 0) with
  accessFlags := 1537
  interfaces := #[]
  cf := some (fileOf pool2 1 #[] #[] 1537 3 #[] #[])
  fields := #[]
  methods := #[]
  instanceTypes := #[]
  staticTypes := #[]
  resolved := Array.replicate 7 none
  statics := none }

def pool3 : Array CpInfo := pool [(1, .class_ 2), (0, u "java/lang/Comparable"), (0, .class_ 4), (0, u "java/lang/Object")] 7

/-- java/lang/Comparable -/
def k3 : Class := { plain "java/lang/Comparable" (some 0) with
  accessFlags := 1537
  interfaces := #[]
  cf := some (fileOf pool3 1 #[] #[] 1537 3 #[] #[])
  fields := #[]
  methods := #[]
  instanceTypes := #[]
  staticTypes := #[]
  resolved := Array.replicate 12 none
  statics := none }

def pool4 : Array CpInfo := pool [(2, .class_ 4), (1, u "java/lang/CharSequence"), (42, .class_ 48), (0, u "java/lang/CharSequence$1CodePointIterator"), (10, .class_ 60), (0, u "java/lang/CharSequence$1CharIterator"), (5, .class_ 67), (0, u "java/lang/Object")] 63

/-- java/lang/CharSequence -/
def k4 : Class := { plain "java/lang/CharSequence" (some 0) with
  accessFlags := 1537
  interfaces := #[]
  cf := some (fileOf pool4 2 #[.nestMembers #[47, 59]] #[] 1537 66 #[] #[])
  fields := #[]
  methods := #[]
  instanceTypes := #[]
  staticTypes := #[]
  resolved := Array.replicate 131 none
  statics := none }

def pool5 : Array CpInfo := pool [(1, .class_ 2), (0, u "java/lang/constant/Constable"), (0, .class_ 4), (0, u "java/lang/Object")] 6

/-- java/lang/constant/Constable -/
def k5 : Class := { plain "java/lang/constant/Constable" (some 0) with
  accessFlags := 1537
  interfaces := #[]
  cf := some (fileOf pool5 1 #[] #[] 1537 3 #[] #[])
  fields := #[]
  methods := #[]
  instanceTypes := #[]
  staticTypes := #[]
  resolved := Array.replicate 11 none
  statics := none }

def pool6 : Array CpInfo := pool [(1, .class_ 2), (0, u "java/lang/constant/ConstantDesc"), (0, .class_ 4), (0, u "java/lang/Object")] 32

/-- java/lang/constant/ConstantDesc -/
def k6 : Class := { plain "java/lang/constant/ConstantDesc" (some 0) with
  accessFlags := 1537
  interfaces := #[]
  cf := some (fileOf pool6 1 #[] #[] 1537 3 #[] #[])
  fields := #[]
  methods := #[]
  instanceTypes := #[]
  staticTypes := #[]
  resolved := Array.replicate 37 none
  statics := none }

def pool7 : Array CpInfo := pool [(1, .methodref 2 3), (0, .class_ 4), (0, .nameAndType 5 6), (0, u "java/lang/Object"), (0, u "<init>"), (0, u "()V"), (2, .fieldref 10 11), (0, .class_ 12), (0, .nameAndType 13 14), (0, u "java/lang/String"), (0, u "value"), (0, u "[B"), (0, .fieldref 10 16), (0, .nameAndType 17 18), (0, u "coder"), (0, u "B"), (2, u "hash"), (0, u "I"), (2, u "hashIsZero"), (0, u "Z"), (11, .fieldref 10 39), (0, .nameAndType 40 26), (0, u "COMPACT_STRINGS"), (12, u "toBytes"), (53, .class_ 109), (1, u "java/lang/StringLatin1"), (99, .methodref 10 210), (0, .nameAndType 5 211), (0, u "([BB)V"), (157, u "(C)Z"), (205, .class_ 576), (0, u "java/lang/CharSequence"), (22, u "CASE_INSENSITIVE_ORDER"), (0, u "Ljava/util/Comparator;"), (181, u "valueOf"), (0, u "(C)Ljava/lang/String;"), (231, .methodref 107 1016), (0, .nameAndType 1017 369), (0, u "canEncode"), (0, .methodref 107 1019), (0, .nameAndType 53 1020), (0, u "(C)[B"), (80, u "serialPersistentFields"), (0, u "[Ljava/io/ObjectStreamField;"), (0, .class_ 1104), (0, u "java/lang/String$CaseInsensitiveComparator"), (1, .class_ 1107), (0, u "java/io/Serializable"), (0, .class_ 1109), (0, u "java/lang/Comparable"), (0, .class_ 1111), (0, u "java/lang/constant/Constable"), (0, .class_ 1113), (0, u "java/lang/constant/ConstantDesc"), (2, u "serialVersionUID"), (0, u "J"), (3, u "REPL"), (0, u "C"), (2, u "LATIN1"), (1, u "UTF16")] 323

def k7m0 : Method := { name := "<init>", desc := "()V", sig := { parameters := [], returnType := none }, accessFlags := 1, code := none }
def k7c1 : Code := { maxStack := 4, maxLocals := 1, code := jdk_42_method_139_code, exceptionTable := #[], attributes := #[] }
def k7m1 : Method := { name := "valueOf", desc := "(C)Ljava/lang/String;", sig := { parameters := [.char], returnType := some (.object "java/lang/String") }, accessFlags := 9, code := some k7c1 }
def k7c2 : Code := { maxStack := 2, maxLocals := 3, code := jdk_42_method_151_code, exceptionTable := #[], attributes := #[] }
def k7m2 : Method := { name := "<init>", desc := "([BB)V", sig := { parameters := [(.array .byte), .byte], returnType := none }, accessFlags := 0, code := some k7c2 }
/-- java/lang/String -/
def k7 : Class := { plain "java/lang/String" (some 0) with
  accessFlags := 49
  interfaces := #[2, 3, 4, 5, 6]
  cf := some (fileOf pool7 10 #[.nestMembers #[1103]] #[{ accessFlags := 1, nameIndex := 5, descriptorIndex := 6, attributes := #[] }, { accessFlags := 9, nameIndex := 782, descriptorIndex := 783, attributes := #[] }, { accessFlags := 0, nameIndex := 5, descriptorIndex := 211, attributes := #[] }] 49 2 #[1106, 1108, 575, 1110, 1112] #[{ accessFlags := 18, nameIndex := 13, descriptorIndex := 14, attributes := #[] }, { accessFlags := 18, nameIndex := 17, descriptorIndex := 18, attributes := #[] }, { accessFlags := 2, nameIndex := 21, descriptorIndex := 22, attributes := #[] }, { accessFlags := 2, nameIndex := 25, descriptorIndex := 26, attributes := #[] }, { accessFlags := 26, nameIndex := 1116, descriptorIndex := 1117, attributes := #[] }, { accessFlags := 24, nameIndex := 40, descriptorIndex := 26, attributes := #[] }, { accessFlags := 26, nameIndex := 1101, descriptorIndex := 1102, attributes := #[] }, { accessFlags := 26, nameIndex := 1121, descriptorIndex := 1122, attributes := #[] }, { accessFlags := 25, nameIndex := 599, descriptorIndex := 600, attributes := #[] }, { accessFlags := 24, nameIndex := 1125, descriptorIndex := 18, attributes := #[] }, { accessFlags := 24, nameIndex := 1127, descriptorIndex := 18, attributes := #[] }])
  fields := #[{ name := "value", type := (.array .byte), accessFlags := 18, slot := 0, constantValue := 0 }, { name := "coder", type := .byte, accessFlags := 18, slot := 1, constantValue := 0 }, { name := "hash", type := .int, accessFlags := 2, slot := 2, constantValue := 0 }, { name := "hashIsZero", type := .boolean, accessFlags := 2, slot := 3, constantValue := 0 }, { name := "serialVersionUID", type := .long, accessFlags := 26, slot := 0, constantValue := 0 }, { name := "COMPACT_STRINGS", type := .boolean, accessFlags := 24, slot := 1, constantValue := 0 }, { name := "serialPersistentFields", type := (.array (.object "java/io/ObjectStreamField")), accessFlags := 26, slot := 2, constantValue := 0 }, { name := "REPL", type := .char, accessFlags := 26, slot := 3, constantValue := 0 }, { name := "CASE_INSENSITIVE_ORDER", type := (.object "java/util/Comparator"), accessFlags := 25, slot := 4, constantValue := 0 }, { name := "LATIN1", type := .byte, accessFlags := 24, slot := 5, constantValue := 0 }, { name := "UTF16", type := .byte, accessFlags := 24, slot := 6, constantValue := 0 }]
  methods := #[k7m0, k7m1, k7m2]
  instanceTypes := #[(.array .byte), .byte, .int, .boolean]
  staticTypes := #[.long, .boolean, (.array (.object "java/io/ObjectStreamField")), .char, (.object "java/util/Comparator"), .byte, .byte]
  resolved := Array.replicate 1451 none
  statics := some 0 }

def pool8 : Array CpInfo := pool [(4, .class_ 6), (1, u "java/lang/Object"), (0, u "<init>"), (0, u "()V"), (5, .class_ 16), (1, u "java/lang/StringLatin1"), (73, u "canEncode"), (14, u "(C)Z"), (15, u "$assertionsDisabled"), (0, u "Z"), (98, .class_ 223), (1, u "java/lang/StringLatin1$LinesSpliterator"), (156, u "toBytes"), (1, u "(C)[B"), (7, .class_ 391), (0, u "java/lang/StringLatin1$CharsSpliterator")] 3

def k8m0 : Method := { name := "<init>", desc := "()V", sig := { parameters := [], returnType := none }, accessFlags := 0, code := none }
def k8c1 : Code := { maxStack := 2, maxLocals := 1, code := jdk_43_method_3_code, exceptionTable := #[], attributes := #[] }
def k8m1 : Method := { name := "canEncode", desc := "(C)Z", sig := { parameters := [.char], returnType := some .boolean }, accessFlags := 9, code := some k8c1 }
def k8c2 : Code := { maxStack := 4, maxLocals := 1, code := jdk_43_method_46_code, exceptionTable := #[], attributes := #[] }
def k8m2 : Method := { name := "toBytes", desc := "(C)[B", sig := { parameters := [.char], returnType := some (.array .byte) }, accessFlags := 9, code := some k8c2 }
/-- java/lang/StringLatin1 -/
def k8 : Class := { plain "java/lang/StringLatin1" (some 0) with
  accessFlags := 48
  interfaces := #[]
  cf := some (fileOf pool8 14 #[.nestMembers #[390, 221]] #[{ accessFlags := 0, nameIndex := 7, descriptorIndex := 8, attributes := #[] }, { accessFlags := 9, nameIndex := 90, descriptorIndex := 105, attributes := #[] }, { accessFlags := 9, nameIndex := 380, descriptorIndex := 382, attributes := #[] }] 48 4 #[] #[{ accessFlags := 4120, nameIndex := 121, descriptorIndex := 122, attributes := #[] }])
  fields := #[{ name := "$assertionsDisabled", type := .boolean, accessFlags := 4120, slot := 0, constantValue := 0 }]
  methods := #[k8m0, k8m1, k8m2]
  instanceTypes := #[]
  staticTypes := #[.boolean]
  resolved := Array.replicate 395 none
  statics := none }

def pool9 : Array CpInfo := pool [(1, .methodref 2 3), (0, .class_ 4), (0, .nameAndType 5 6), (0, u "java/lang/Object"), (0, u "<init>"), (0, u "()V"), (0, .class_ 8), (0, u "java/lang/Record")] 13

def k9c0 : Code := { maxStack := 1, maxLocals := 1, code := jdk_30_method_1_code, exceptionTable := #[], attributes := #[] }
def k9m0 : Method := { name := "<init>", desc := "()V", sig := { parameters := [], returnType := none }, accessFlags := 4, code := some k9c0 }
/-- java/lang/Record -/
def k9 : Class := { plain "java/lang/Record" (some 0) with
  accessFlags := 1057
  interfaces := #[]
  cf := some (fileOf pool9 7 #[] #[{ accessFlags := 4, nameIndex := 5, descriptorIndex := 6, attributes := #[] }] 1057 2 #[] #[])
  fields := #[]
  methods := #[k9m0]
  instanceTypes := #[]
  staticTypes := #[]
  resolved := Array.replicate 22 none
  statics := none }

def pool10 : Array CpInfo := pool [(1, .methodref 2 3), (0, .class_ 4), (0, .nameAndType 5 6), (0, u "java/lang/Record"), (0, u "<init>"), (0, u "()V"), (0, .string 8), (0, u "id"), (0, .methodref 10 11), (0, .class_ 12), (0, .nameAndType 13 14), (0, u "java/util/Objects"), (0, u "requireNonNull"), (0, u "(Ljava/lang/Object;Ljava/lang/String;)Ljava/lang/Object;"), (0, .string 16), (0, u "fromNodeId"), (0, .string 18), (0, u "toNodeId"), (0, .methodref 20 21), (0, .class_ 22), (0, .nameAndType 23 24), (0, u "java/lang/Double"), (0, u "isFinite"), (0, u "(D)Z"), (1, u "length"), (7, .class_ 36), (1, u "com/example/errand_queue/errandqueue/network/Link"), (3, u "lanes"), (15, .fieldref 34 57), (0, .nameAndType 8 58), (0, u "Ljava/lang/String;"), (0, .fieldref 34 60), (0, .nameAndType 16 58), (0, .fieldref 34 62), (0, .nameAndType 18 58), (0, .fieldref 34 64), (0, .nameAndType 26 65), (0, u "D"), (0, .fieldref 34 67), (0, .nameAndType 40 68), (0, u "I"), (0, .fieldref 34 70), (0, .nameAndType 71 65), (0, u "freeSpeed"), (0, .fieldref 34 73), (0, .nameAndType 74 65), (0, u "outflowCapacity"), (0, .methodref 34 76), (0, .nameAndType 74 77), (0, u "()D"), (0, .fieldref 79 80), (0, .class_ 81), (0, .nameAndType 82 83), (0, u "com/example/errand_queue/errandqueue/network/TimeUnit"), (0, u "HOUR"), (0, u "Lcom/example/errand_queue/errandqueue/network/TimeUnit;"), (0, .methodref 79 85), (0, .nameAndType 86 77), (0, u "seconds"), (40, u "VEHICLE_SPACE"), (1, u "(Ljava/lang/String;Ljava/lang/String;Ljava/lang/String;DIDD)V"), (5, u "outflowPerSecond")] 38

def k10c0 : Code := { maxStack := 4, maxLocals := 11, code := prog_13_method_1_code, exceptionTable := #[], attributes := #[] }
def k10m0 : Method := { name := "<init>", desc := "(Ljava/lang/String;Ljava/lang/String;Ljava/lang/String;DIDD)V", sig := { parameters := [(.object "java/lang/String"), (.object "java/lang/String"), (.object "java/lang/String"), .double, .int, .double, .double], returnType := none }, accessFlags := 1, code := some k10c0 }
def k10c1 : Code := { maxStack := 4, maxLocals := 1, code := prog_13_method_3_code, exceptionTable := #[], attributes := #[] }
def k10m1 : Method := { name := "outflowPerSecond", desc := "()D", sig := { parameters := [], returnType := some .double }, accessFlags := 1, code := some k10c1 }
def k10c2 : Code := { maxStack := 2, maxLocals := 1, code := prog_13_method_15_code, exceptionTable := #[], attributes := #[] }
def k10m2 : Method := { name := "outflowCapacity", desc := "()D", sig := { parameters := [], returnType := some .double }, accessFlags := 1, code := some k10c2 }
/-- com/example/errand_queue/errandqueue/network/Link -/
def k10 : Class := { plain "com/example/errand_queue/errandqueue/network/Link" (some 9) with
  accessFlags := 49
  interfaces := #[]
  cf := some (fileOf pool10 34 #[] #[{ accessFlags := 1, nameIndex := 5, descriptorIndex := 129, attributes := #[] }, { accessFlags := 1, nameIndex := 135, descriptorIndex := 77, attributes := #[] }, { accessFlags := 1, nameIndex := 74, descriptorIndex := 77, attributes := #[] }] 49 2 #[] #[{ accessFlags := 18, nameIndex := 8, descriptorIndex := 58, attributes := #[] }, { accessFlags := 18, nameIndex := 16, descriptorIndex := 58, attributes := #[] }, { accessFlags := 18, nameIndex := 18, descriptorIndex := 58, attributes := #[] }, { accessFlags := 18, nameIndex := 26, descriptorIndex := 65, attributes := #[] }, { accessFlags := 18, nameIndex := 40, descriptorIndex := 68, attributes := #[] }, { accessFlags := 18, nameIndex := 71, descriptorIndex := 65, attributes := #[] }, { accessFlags := 18, nameIndex := 74, descriptorIndex := 65, attributes := #[] }, { accessFlags := 25, nameIndex := 127, descriptorIndex := 65, attributes := #[] }])
  fields := #[{ name := "id", type := (.object "java/lang/String"), accessFlags := 18, slot := 0, constantValue := 0 }, { name := "fromNodeId", type := (.object "java/lang/String"), accessFlags := 18, slot := 1, constantValue := 0 }, { name := "toNodeId", type := (.object "java/lang/String"), accessFlags := 18, slot := 2, constantValue := 0 }, { name := "length", type := .double, accessFlags := 18, slot := 3, constantValue := 0 }, { name := "lanes", type := .int, accessFlags := 18, slot := 4, constantValue := 0 }, { name := "freeSpeed", type := .double, accessFlags := 18, slot := 5, constantValue := 0 }, { name := "outflowCapacity", type := .double, accessFlags := 18, slot := 6, constantValue := 0 }, { name := "VEHICLE_SPACE", type := .double, accessFlags := 25, slot := 0, constantValue := 0 }]
  methods := #[k10m0, k10m1, k10m2]
  instanceTypes := #[(.object "java/lang/String"), (.object "java/lang/String"), (.object "java/lang/String"), .double, .int, .double, .double]
  staticTypes := #[.double]
  resolved := Array.replicate 174 none
  statics := none }

def pool11 : Array CpInfo := pool [(2, .class_ 4), (1, u "java/lang/Object"), (0, u "<init>"), (0, u "()V"), (35, .class_ 44), (1, u "java/util/Objects"), (0, u "requireNonNull"), (48, u "(Ljava/lang/Object;Ljava/lang/String;)Ljava/lang/Object;")] 89

def k11m0 : Method := { name := "<init>", desc := "()V", sig := { parameters := [], returnType := none }, accessFlags := 2, code := none }
def k11c1 : Code := { maxStack := 3, maxLocals := 2, code := jdk_31_method_11_code, exceptionTable := #[], attributes := #[] }
def k11m1 : Method := { name := "requireNonNull", desc := "(Ljava/lang/Object;Ljava/lang/String;)Ljava/lang/Object;", sig := { parameters := [(.object "java/lang/Object"), (.object "java/lang/String")], returnType := some (.object "java/lang/Object") }, accessFlags := 9, code := some k11c1 }
/-- java/util/Objects -/
def k11 : Class := { plain "java/util/Objects" (some 0) with
  accessFlags := 49
  interfaces := #[]
  cf := some (fileOf pool11 42 #[] #[{ accessFlags := 2, nameIndex := 5, descriptorIndex := 6, attributes := #[] }, { accessFlags := 9, nameIndex := 45, descriptorIndex := 94, attributes := #[] }] 49 2 #[] #[])
  fields := #[]
  methods := #[k11m0, k11m1]
  instanceTypes := #[]
  staticTypes := #[]
  resolved := Array.replicate 184 none
  statics := none }

def pool12 : Array CpInfo := pool [(2, .class_ 4), (1, u "java/lang/Object"), (0, u "<init>"), (0, u "()V"), (1, .class_ 10), (1, u "java/lang/Number"), (2, .class_ 14), (0, u "java/io/Serializable"), (0, u "serialVersionUID"), (0, u "J")] 20

def k12m0 : Method := { name := "<init>", desc := "()V", sig := { parameters := [], returnType := none }, accessFlags := 1, code := none }
/-- java/lang/Number -/
def k12 : Class := { plain "java/lang/Number" (some 0) with
  accessFlags := 1057
  interfaces := #[2]
  cf := some (fileOf pool12 8 #[] #[{ accessFlags := 1, nameIndex := 5, descriptorIndex := 6, attributes := #[] }] 1057 2 #[13] #[{ accessFlags := 26, nameIndex := 15, descriptorIndex := 16, attributes := #[] }])
  fields := #[{ name := "serialVersionUID", type := .long, accessFlags := 26, slot := 0, constantValue := 0 }]
  methods := #[k12m0]
  instanceTypes := #[]
  staticTypes := #[.long]
  resolved := Array.replicate 37 none
  statics := none }

def pool13 : Array CpInfo := pool [(1, .class_ 2), (0, u "java/lang/Double"), (10, u "isFinite"), (0, u "(D)Z"), (8, .class_ 25), (1, u "java/lang/Math"), (12, .methodref 23 39), (0, .nameAndType 40 41), (0, u "abs"), (0, u "(D)D"), (69, .double 9218868437227405311), (2, .class_ 116), (1, u "java/lang/Number"), (3, u "value"), (0, u "D"), (51, u "TYPE"), (0, u "Ljava/lang/Class;"), (0, .class_ 176), (0, u "java/lang/Comparable"), (0, .class_ 178), (0, u "java/lang/constant/Constable"), (0, .class_ 180), (0, u "java/lang/constant/ConstantDesc"), (0, u "POSITIVE_INFINITY"), (3, u "NEGATIVE_INFINITY"), (2, u "NaN"), (2, u "MAX_VALUE"), (0, u "MIN_NORMAL"), (0, u "MIN_VALUE"), (2, u "SIZE"), (0, u "I"), (1, u "PRECISION"), (1, u "MAX_EXPONENT"), (1, u "MIN_EXPONENT"), (1, u "BYTES"), (3, u "serialVersionUID"), (0, u "J")] 79

def k13c0 : Code := { maxStack := 4, maxLocals := 2, code := jdk_117_method_8_code, exceptionTable := #[], attributes := #[] }
def k13m0 : Method := { name := "isFinite", desc := "(D)Z", sig := { parameters := [.double], returnType := some .boolean }, accessFlags := 9, code := some k13c0 }
/-- java/lang/Double -/
def k13 : Class := { plain "java/lang/Double" (some 12) with
  accessFlags := 49
  interfaces := #[3, 5, 6]
  cf := some (fileOf pool13 1 #[] #[{ accessFlags := 9, nameIndex := 13, descriptorIndex := 14, attributes := #[] }] 49 114 #[175, 177, 179] #[{ accessFlags := 25, nameIndex := 181, descriptorIndex := 121, attributes := #[] }, { accessFlags := 25, nameIndex := 185, descriptorIndex := 121, attributes := #[] }, { accessFlags := 25, nameIndex := 188, descriptorIndex := 121, attributes := #[] }, { accessFlags := 25, nameIndex := 191, descriptorIndex := 121, attributes := #[] }, { accessFlags := 25, nameIndex := 192, descriptorIndex := 121, attributes := #[] }, { accessFlags := 25, nameIndex := 193, descriptorIndex := 121, attributes := #[] }, { accessFlags := 25, nameIndex := 196, descriptorIndex := 197, attributes := #[] }, { accessFlags := 25, nameIndex := 199, descriptorIndex := 197, attributes := #[] }, { accessFlags := 25, nameIndex := 201, descriptorIndex := 197, attributes := #[] }, { accessFlags := 25, nameIndex := 203, descriptorIndex := 197, attributes := #[] }, { accessFlags := 25, nameIndex := 205, descriptorIndex := 197, attributes := #[] }, { accessFlags := 25, nameIndex := 173, descriptorIndex := 174, attributes := #[] }, { accessFlags := 18, nameIndex := 120, descriptorIndex := 121, attributes := #[] }, { accessFlags := 26, nameIndex := 209, descriptorIndex := 210, attributes := #[] }])
  fields := #[{ name := "POSITIVE_INFINITY", type := .double, accessFlags := 25, slot := 0, constantValue := 0 }, { name := "NEGATIVE_INFINITY", type := .double, accessFlags := 25, slot := 1, constantValue := 0 }, { name := "NaN", type := .double, accessFlags := 25, slot := 2, constantValue := 0 }, { name := "MAX_VALUE", type := .double, accessFlags := 25, slot := 3, constantValue := 0 }, { name := "MIN_NORMAL", type := .double, accessFlags := 25, slot := 4, constantValue := 0 }, { name := "MIN_VALUE", type := .double, accessFlags := 25, slot := 5, constantValue := 0 }, { name := "SIZE", type := .int, accessFlags := 25, slot := 6, constantValue := 0 }, { name := "PRECISION", type := .int, accessFlags := 25, slot := 7, constantValue := 0 }, { name := "MAX_EXPONENT", type := .int, accessFlags := 25, slot := 8, constantValue := 0 }, { name := "MIN_EXPONENT", type := .int, accessFlags := 25, slot := 9, constantValue := 0 }, { name := "BYTES", type := .int, accessFlags := 25, slot := 10, constantValue := 0 }, { name := "TYPE", type := (.object "java/lang/Class"), accessFlags := 25, slot := 11, constantValue := 0 }, { name := "value", type := .double, accessFlags := 18, slot := 0, constantValue := 0 }, { name := "serialVersionUID", type := .long, accessFlags := 26, slot := 12, constantValue := 0 }]
  methods := #[k13m0]
  instanceTypes := #[.double]
  staticTypes := #[.double, .double, .double, .double, .double, .double, .int, .int, .int, .int, .int, (.object "java/lang/Class"), .long]
  resolved := Array.replicate 290 none
  statics := none }

def pool14 : Array CpInfo := pool [(1, .class_ 2), (0, u "java/lang/Math"), (1, .class_ 6), (1, u "java/lang/Object"), (0, u "<init>"), (0, u "()V"), (5, u "(D)D"), (83, .class_ 100), (1, u "java/lang/Math$RandomNumberGeneratorHolder"), (23, u "abs"), (47, u "negativeZeroFloatBits"), (0, u "J"), (2, u "negativeZeroDoubleBits"), (68, u "$assertionsDisabled"), (0, u "Z"), (91, u "twoToTheDoubleScaleDown"), (0, u "D"), (4, u "twoToTheDoubleScaleUp"), (9, u "E"), (3, u "PI"), (2, u "TAU"), (2, u "DEGREES_TO_RADIANS"), (0, u "RADIANS_TO_DEGREES")] 94

def k14m0 : Method := { name := "<init>", desc := "()V", sig := { parameters := [], returnType := none }, accessFlags := 2, code := none }
def k14c1 : Code := { maxStack := 4, maxLocals := 2, code := jdk_29_method_64_code, exceptionTable := #[], attributes := #[] }
def k14m1 : Method := { name := "abs", desc := "(D)D", sig := { parameters := [.double], returnType := some .double }, accessFlags := 9, code := some k14c1 }
/-- java/lang/Math -/
def k14 : Class := { plain "java/lang/Math" (some 0) with
  accessFlags := 49
  interfaces := #[]
  cf := some (fileOf pool14 1 #[.nestMembers #[98]] #[{ accessFlags := 2, nameIndex := 7, descriptorIndex := 8, attributes := #[] }, { accessFlags := 9, nameIndex := 124, descriptorIndex := 14, attributes := #[] }] 49 4 #[] #[{ accessFlags := 25, nameIndex := 354, descriptorIndex := 339, attributes := #[] }, { accessFlags := 25, nameIndex := 358, descriptorIndex := 339, attributes := #[] }, { accessFlags := 25, nameIndex := 361, descriptorIndex := 339, attributes := #[] }, { accessFlags := 26, nameIndex := 364, descriptorIndex := 339, attributes := #[] }, { accessFlags := 26, nameIndex := 365, descriptorIndex := 339, attributes := #[] }, { accessFlags := 26, nameIndex := 172, descriptorIndex := 173, attributes := #[] }, { accessFlags := 26, nameIndex := 176, descriptorIndex := 173, attributes := #[] }, { accessFlags := 8, nameIndex := 344, descriptorIndex := 339, attributes := #[] }, { accessFlags := 8, nameIndex := 338, descriptorIndex := 339, attributes := #[] }, { accessFlags := 4120, nameIndex := 245, descriptorIndex := 246, attributes := #[] }])
  fields := #[{ name := "E", type := .double, accessFlags := 25, slot := 0, constantValue := 0 }, { name := "PI", type := .double, accessFlags := 25, slot := 1, constantValue := 0 }, { name := "TAU", type := .double, accessFlags := 25, slot := 2, constantValue := 0 }, { name := "DEGREES_TO_RADIANS", type := .double, accessFlags := 26, slot := 3, constantValue := 0 }, { name := "RADIANS_TO_DEGREES", type := .double, accessFlags := 26, slot := 4, constantValue := 0 }, { name := "negativeZeroFloatBits", type := .long, accessFlags := 26, slot := 5, constantValue := 0 }, { name := "negativeZeroDoubleBits", type := .long, accessFlags := 26, slot := 6, constantValue := 0 }, { name := "twoToTheDoubleScaleUp", type := .double, accessFlags := 8, slot := 7, constantValue := 0 }, { name := "twoToTheDoubleScaleDown", type := .double, accessFlags := 8, slot := 8, constantValue := 0 }, { name := "$assertionsDisabled", type := .boolean, accessFlags := 4120, slot := 9, constantValue := 0 }]
  methods := #[k14m0, k14m1]
  instanceTypes := #[]
  staticTypes := #[.double, .double, .double, .double, .double, .long, .long, .double, .double, .boolean]
  resolved := Array.replicate 460 none
  statics := none }

def pool15 : Array CpInfo := pool [(2, .class_ 4), (1, u "java/lang/Enum"), (0, u "name"), (0, u "Ljava/lang/String;"), (2, u "ordinal"), (0, u "I"), (1, .class_ 14), (1, u "java/lang/Object"), (4, u "hash"), (86, .class_ 108), (1, u "java/lang/Enum$EnumDesc"), (2, .class_ 112), (0, u "java/lang/constant/Constable"), (0, .class_ 114), (0, u "java/lang/Comparable"), (0, .class_ 116), (0, u "java/io/Serializable")] 87

/-- java/lang/Enum -/
def k15 : Class := { plain "java/lang/Enum" (some 0) with
  accessFlags := 1057
  interfaces := #[5, 3, 2]
  cf := some (fileOf pool15 2 #[.nestMembers #[106]] #[] 1057 12 #[111, 113, 115] #[{ accessFlags := 18, nameIndex := 5, descriptorIndex := 6, attributes := #[] }, { accessFlags := 18, nameIndex := 9, descriptorIndex := 10, attributes := #[] }, { accessFlags := 2, nameIndex := 19, descriptorIndex := 10, attributes := #[] }])
  fields := #[{ name := "name", type := (.object "java/lang/String"), accessFlags := 18, slot := 0, constantValue := 0 }, { name := "ordinal", type := .int, accessFlags := 18, slot := 1, constantValue := 0 }, { name := "hash", type := .int, accessFlags := 2, slot := 2, constantValue := 0 }]
  methods := #[]
  instanceTypes := #[(.object "java/lang/String"), .int, .int]
  staticTypes := #[]
  resolved := Array.replicate 204 none
  statics := none }

def pool16 : Array CpInfo := pool [(1, .class_ 2), (0, u "com/example/errand_queue/errandqueue/network/TimeUnit"), (2, u "SECOND"), (0, u "Lcom/example/errand_queue/errandqueue/network/TimeUnit;"), (2, u "MINUTE"), (2, u "HOUR"), (2, u "$VALUES"), (0, u "[Lcom/example/errand_queue/errandqueue/network/TimeUnit;"), (6, .class_ 25), (1, u "java/lang/Enum"), (6, .fieldref 1 33), (0, .nameAndType 34 35), (0, u "seconds"), (0, u "D"), (8, u "names"), (0, u "Ljava/util/List;"), (68, u "()D")] 31

def k16c0 : Code := { maxStack := 2, maxLocals := 1, code := prog_19_method_7_code, exceptionTable := #[], attributes := #[] }
def k16m0 : Method := { name := "seconds", desc := "()D", sig := { parameters := [], returnType := some .double }, accessFlags := 0, code := some k16c0 }
/-- com/example/errand_queue/errandqueue/network/TimeUnit -/
def k16 : Class := { plain "com/example/errand_queue/errandqueue/network/TimeUnit" (some 15) with
  accessFlags := 16433
  interfaces := #[]
  cf := some (fileOf pool16 1 #[] #[{ accessFlags := 0, nameIndex := 34, descriptorIndex := 114, attributes := #[] }] 16433 23 #[] #[{ accessFlags := 16409, nameIndex := 5, descriptorIndex := 6, attributes := #[] }, { accessFlags := 16409, nameIndex := 9, descriptorIndex := 6, attributes := #[] }, { accessFlags := 16409, nameIndex := 12, descriptorIndex := 6, attributes := #[] }, { accessFlags := 18, nameIndex := 34, descriptorIndex := 35, attributes := #[] }, { accessFlags := 18, nameIndex := 44, descriptorIndex := 45, attributes := #[] }, { accessFlags := 4122, nameIndex := 15, descriptorIndex := 16, attributes := #[] }])
  fields := #[{ name := "SECOND", type := (.object "com/example/errand_queue/errandqueue/network/TimeUnit"), accessFlags := 16409, slot := 0, constantValue := 0 }, { name := "MINUTE", type := (.object "com/example/errand_queue/errandqueue/network/TimeUnit"), accessFlags := 16409, slot := 1, constantValue := 0 }, { name := "HOUR", type := (.object "com/example/errand_queue/errandqueue/network/TimeUnit"), accessFlags := 16409, slot := 2, constantValue := 0 }, { name := "seconds", type := .double, accessFlags := 18, slot := 3, constantValue := 0 }, { name := "names", type := (.object "java/util/List"), accessFlags := 18, slot := 4, constantValue := 0 }, { name := "$VALUES", type := (.array (.object "com/example/errand_queue/errandqueue/network/TimeUnit")), accessFlags := 4122, slot := 3, constantValue := 0 }]
  methods := #[k16m0]
  instanceTypes := #[(.object "java/lang/String"), .int, .int, .double, (.object "java/util/List")]
  staticTypes := #[(.object "com/example/errand_queue/errandqueue/network/TimeUnit"), (.object "com/example/errand_queue/errandqueue/network/TimeUnit"), (.object "com/example/errand_queue/errandqueue/network/TimeUnit"), (.array (.object "com/example/errand_queue/errandqueue/network/TimeUnit"))]
  resolved := Array.replicate 146 none
  statics := some 1 }

def pool17 : Array CpInfo := pool [(2, .class_ 4), (1, u "java/lang/Object"), (0, u "<init>"), (0, u "()V"), (17, .class_ 26), (1, u "jdk/internal/util/Preconditions"), (28, .class_ 56), (0, u "jdk/internal/util/Preconditions$4"), (57, .class_ 115), (0, u "jdk/internal/util/Preconditions$1"), (7, u "SIOOBE_FORMATTER"), (0, u "Ljava/util/function/BiFunction;"), (0, .class_ 126), (0, u "jdk/internal/util/Preconditions$2"), (3, u "AIOOBE_FORMATTER"), (0, .class_ 132), (0, u "jdk/internal/util/Preconditions$3"), (3, u "IOOBE_FORMATTER")] 57

def k17m0 : Method := { name := "<init>", desc := "()V", sig := { parameters := [], returnType := none }, accessFlags := 1, code := none }
/-- jdk/internal/util/Preconditions -/
def k17 : Class := { plain "jdk/internal/util/Preconditions" (some 0) with
  accessFlags := 33
  interfaces := #[]
  cf := some (fileOf pool17 24 #[.nestMembers #[55, 131, 125, 114]] #[{ accessFlags := 1, nameIndex := 5, descriptorIndex := 6, attributes := #[] }] 33 2 #[] #[{ accessFlags := 25, nameIndex := 123, descriptorIndex := 124, attributes := #[] }, { accessFlags := 25, nameIndex := 130, descriptorIndex := 124, attributes := #[] }, { accessFlags := 25, nameIndex := 136, descriptorIndex := 124, attributes := #[] }])
  fields := #[{ name := "SIOOBE_FORMATTER", type := (.object "java/util/function/BiFunction"), accessFlags := 25, slot := 0, constantValue := 0 }, { name := "AIOOBE_FORMATTER", type := (.object "java/util/function/BiFunction"), accessFlags := 25, slot := 1, constantValue := 0 }, { name := "IOOBE_FORMATTER", type := (.object "java/util/function/BiFunction"), accessFlags := 25, slot := 2, constantValue := 0 }]
  methods := #[k17m0]
  instanceTypes := #[]
  staticTypes := #[(.object "java/util/function/BiFunction"), (.object "java/util/function/BiFunction"), (.object "java/util/function/BiFunction")]
  resolved := Array.replicate 194 none
  statics := some 2 }

def pool18 : Array CpInfo := pool [(9, u "<init>"), (6, .class_ 18), (1, u "java/lang/Object"), (0, u "()V"), (1, .class_ 23), (1, u "jdk/internal/util/ArraysSupport"), (0, u "LOG2_ARRAY_LONG_INDEX_SCALE"), (0, u "I"), (2, u "U"), (0, u "Ljdk/internal/misc/Unsafe;"), (8, u "BIG_ENDIAN"), (0, u "Z"), (8, u "LOG2_BYTE_BIT_SIZE"), (4, u "LOG2_ARRAY_INT_INDEX_SCALE"), (54, u "JLA"), (0, u "Ljdk/internal/access/JavaLangAccess;"), (11, u "LOG2_ARRAY_BOOLEAN_INDEX_SCALE"), (9, u "LOG2_ARRAY_BYTE_INDEX_SCALE"), (5, u "LOG2_ARRAY_CHAR_INDEX_SCALE"), (5, u "LOG2_ARRAY_SHORT_INDEX_SCALE"), (18, u "LOG2_ARRAY_FLOAT_INDEX_SCALE"), (24, u "LOG2_ARRAY_DOUBLE_INDEX_SCALE"), (89, u "T_BOOLEAN"), (2, u "T_CHAR"), (1, u "T_FLOAT"), (1, u "T_DOUBLE"), (1, u "T_BYTE"), (1, u "T_SHORT"), (1, u "T_INT"), (1, u "T_LONG"), (1, u "SOFT_MAX_ARRAY_LENGTH")] 83

def k18m0 : Method := { name := "<init>", desc := "()V", sig := { parameters := [], returnType := none }, accessFlags := 2, code := none }
/-- jdk/internal/util/ArraysSupport -/
def k18 : Class := { plain "jdk/internal/util/ArraysSupport" (some 0) with
  accessFlags := 33
  interfaces := #[]
  cf := some (fileOf pool18 21 #[] #[{ accessFlags := 2, nameIndex := 9, descriptorIndex := 19, attributes := #[] }] 33 16 #[] #[{ accessFlags := 24, nameIndex := 28, descriptorIndex := 29, attributes := #[] }, { accessFlags := 26, nameIndex := 38, descriptorIndex := 39, attributes := #[] }, { accessFlags := 25, nameIndex := 121, descriptorIndex := 25, attributes := #[] }, { accessFlags := 25, nameIndex := 131, descriptorIndex := 25, attributes := #[] }, { accessFlags := 25, nameIndex := 137, descriptorIndex := 25, attributes := #[] }, { accessFlags := 25, nameIndex := 143, descriptorIndex := 25, attributes := #[] }, { accessFlags := 25, nameIndex := 53, descriptorIndex := 25, attributes := #[] }, { accessFlags := 25, nameIndex := 24, descriptorIndex := 25, attributes := #[] }, { accessFlags := 25, nameIndex := 162, descriptorIndex := 25, attributes := #[] }, { accessFlags := 25, nameIndex := 187, descriptorIndex := 25, attributes := #[] }, { accessFlags := 26, nameIndex := 48, descriptorIndex := 25, attributes := #[] }, { accessFlags := 25, nameIndex := 277, descriptorIndex := 25, attributes := #[] }, { accessFlags := 25, nameIndex := 280, descriptorIndex := 25, attributes := #[] }, { accessFlags := 25, nameIndex := 282, descriptorIndex := 25, attributes := #[] }, { accessFlags := 25, nameIndex := 284, descriptorIndex := 25, attributes := #[] }, { accessFlags := 25, nameIndex := 286, descriptorIndex := 25, attributes := #[] }, { accessFlags := 25, nameIndex := 288, descriptorIndex := 25, attributes := #[] }, { accessFlags := 25, nameIndex := 290, descriptorIndex := 25, attributes := #[] }, { accessFlags := 25, nameIndex := 292, descriptorIndex := 25, attributes := #[] }, { accessFlags := 26, nameIndex := 108, descriptorIndex := 109, attributes := #[] }, { accessFlags := 25, nameIndex := 294, descriptorIndex := 25, attributes := #[] }])
  fields := #[{ name := "U", type := (.object "jdk/internal/misc/Unsafe"), accessFlags := 24, slot := 0, constantValue := 0 }, { name := "BIG_ENDIAN", type := .boolean, accessFlags := 26, slot := 1, constantValue := 0 }, { name := "LOG2_ARRAY_BOOLEAN_INDEX_SCALE", type := .int, accessFlags := 25, slot := 2, constantValue := 0 }, { name := "LOG2_ARRAY_BYTE_INDEX_SCALE", type := .int, accessFlags := 25, slot := 3, constantValue := 0 }, { name := "LOG2_ARRAY_CHAR_INDEX_SCALE", type := .int, accessFlags := 25, slot := 4, constantValue := 0 }, { name := "LOG2_ARRAY_SHORT_INDEX_SCALE", type := .int, accessFlags := 25, slot := 5, constantValue := 0 }, { name := "LOG2_ARRAY_INT_INDEX_SCALE", type := .int, accessFlags := 25, slot := 6, constantValue := 0 }, { name := "LOG2_ARRAY_LONG_INDEX_SCALE", type := .int, accessFlags := 25, slot := 7, constantValue := 0 }, { name := "LOG2_ARRAY_FLOAT_INDEX_SCALE", type := .int, accessFlags := 25, slot := 8, constantValue := 0 }, { name := "LOG2_ARRAY_DOUBLE_INDEX_SCALE", type := .int, accessFlags := 25, slot := 9, constantValue := 0 }, { name := "LOG2_BYTE_BIT_SIZE", type := .int, accessFlags := 26, slot := 10, constantValue := 0 }, { name := "T_BOOLEAN", type := .int, accessFlags := 25, slot := 11, constantValue := 0 }, { name := "T_CHAR", type := .int, accessFlags := 25, slot := 12, constantValue := 0 }, { name := "T_FLOAT", type := .int, accessFlags := 25, slot := 13, constantValue := 0 }, { name := "T_DOUBLE", type := .int, accessFlags := 25, slot := 14, constantValue := 0 }, { name := "T_BYTE", type := .int, accessFlags := 25, slot := 15, constantValue := 0 }, { name := "T_SHORT", type := .int, accessFlags := 25, slot := 16, constantValue := 0 }, { name := "T_INT", type := .int, accessFlags := 25, slot := 17, constantValue := 0 }, { name := "T_LONG", type := .int, accessFlags := 25, slot := 18, constantValue := 0 }, { name := "JLA", type := (.object "jdk/internal/access/JavaLangAccess"), accessFlags := 26, slot := 19, constantValue := 0 }, { name := "SOFT_MAX_ARRAY_LENGTH", type := .int, accessFlags := 25, slot := 20, constantValue := 0 }]
  methods := #[k18m0]
  instanceTypes := #[]
  staticTypes := #[(.object "jdk/internal/misc/Unsafe"), .boolean, .int, .int, .int, .int, .int, .int, .int, .int, .int, .int, .int, .int, .int, .int, .int, .int, .int, (.object "jdk/internal/access/JavaLangAccess"), .int]
  resolved := Array.replicate 378 none
  statics := none }

def pool19 : Array CpInfo := pool [(1, u "java/lang/Cloneable"), (0, .class_ 1), (0, u "java/lang/Object"), (0, .class_ 3)] 3

/-- java/lang/Cloneable -/
def k19 : Class := { plain "java/lang/Cloneable" (some 0) with
  accessFlags := 1537
  interfaces := #[]
  cf := some (fileOf pool19 2 #[] #[] 1537 4 #[] #[])
  fields := #[]
  methods := #[]
  instanceTypes := #[]
  staticTypes := #[]
  resolved := Array.replicate 8 none
  statics := none }

/-- the primitive byte -/
def k20 : Class := { plain "byte" none with kind := .primitive 'B', accessFlags := 0x411 }
/-- [B -/
def k21 : Class := { plain "[B" (some 0) with kind := .array 20 .byte, interfaces := #[19, 2], accessFlags := 1041 }

def heap : Heap := #[{ cls := 7, slots := #[.long 0, .int 1, .null, .int 0, .null, .int 0, .int 0], vm := .statics 7 },
  { cls := 16, slots := #[.null, .null, .ref 3, .null], vm := .statics 16 },
  { cls := 17, slots := #[.null, .null, .null], vm := .statics 17 },
  { cls := 16, slots := #[.null, .int 0, .int 0, .double 4660134898793709568, .null], vm := .none }]
def classes : Array Class := #[k0, k1, k2, k3, k4, k5, k6, k7, k8, k9, k10, k11, k12, k13, k14, k15, k16, k17, k18, k19, k20, k21]
def interned : List (Array UInt16 × Addr) := []
def slotsUsed : Nat := 19
def theMethod : MethodId := ⟨1, 1⟩
def args0 : Array Value := #[.int 5, .int 5, .int 5, .int 5, .int 5, .int 5]
def aboutOver (below : List Frame) : State where
  vm := { classes := classes, interned := interned.toArray }
  heap := heap
  slotsUsed := slotsUsed
  threads := #[{ frames := .invoking theMethod args0 :: below }]
def below0 : List Frame := [.native { method := ⟨0, 0⟩, args := #[] }]
def about1 : State := aboutOver below0
def p0 : Program := .bare "" "" ""
def e0 : Env := launch0.env 0 0 0
theorem w_frames : about1.frames = Frame.invoking theMethod args0 :: below0 := rfl
set_option maxRecDepth 65536 in
theorem w_args : argsFit about1.vm theMethod args0 = true := by decide +kernel
set_option maxRecDepth 65536 in
theorem w_heap : heapFits about1 = true := by decide +kernel
set_option maxRecDepth 65536 in
theorem w_runnable : about1.curStatus? = some .runnable := by decide +kernel
set_option maxRecDepth 65536 in
theorem w_alone : about1.alone = true := by decide +kernel
set_option maxRecDepth 65536 in
theorem w_named : about1.methodNamed? x = some theMethod := by decide +kernel
set_option maxRecDepth 65536 in
theorem w_hears : about1.hears theMethod below0 = true := by decide +kernel
set_option maxRecDepth 65536 in
theorem w_ripe : about1.ripe theMethod args0 below0 = true := by decide +kernel
theorem w_running : about1.status = .running := rfl
set_option maxRecDepth 65536 in
theorem w_room : about1.hasRoom e0.platform room_1 = true :=
  launch0.hasRoom_least _ room_1 (by decide +kernel) (by decide +kernel) (by decide +kernel) (by decide +kernel) (by decide +kernel) (by decide +kernel)
theorem allAtoms_all (ts : List Jvm.Cond) (a : Array Jvm.Value) (st : Jvm.State) : (allAtoms ts).before a st = ts.all (fun c => c.before a st) := by
  induction ts with
  | nil => rfl
  | cons c t ih =>
    show (Jvm.Cond.and c (allAtoms t)).before a st = _
    rw [Jvm.Cond.before_and, ih, List.all_cons]
def words1 : List Jvm.Cond := Jvm.Cond.code x code maxLocals ret :: tables_1
/-- a 'code' word, met by the world's own term for the bytes: nothing is compared byte by byte -/
theorem code_word {y : MethodName} {bytes : ByteArray} {mx : Nat} {rt : Option FieldType} {a : Array Value} {s : State} {m : MethodId} {meth : Method} {c : Code} (h1 : s.methodNamed? y = some m) (h2 : s.vm.method? m = some meth) (h3 : meth.code = some c) (h4 : c.code = bytes)
    (h5 : (c.maxLocals == mx && c.exceptionTable.isEmpty && decide (c.maxStack ≤ mostOperands) && decide (meth.sig.returnType = rt) && !meth.locks && decide (parseMethodDescriptor y.desc = some meth.sig)) = true) : (Jvm.Cond.code y bytes mx rt).before a s = true := by
  simp only [Bool.and_eq_true, beq_iff_eq, Bool.not_eq_true', decide_eq_true_eq] at h5
  obtain ⟨⟨⟨⟨⟨g1, g2⟩, g3⟩, g4⟩, g5⟩, g6⟩ := h5
  simp [Cond.before, Cond.holds, Cond.value, h1, h2, h3, h4, g1, g2, g3, g4, g5, g6]
def isCode : Jvm.Cond → Bool
  | .code _ _ _ _ => true
  | _ => false
theorem all_split {L : List Jvm.Cond} {P : Jvm.Cond → Bool} (h1 : L.all (fun c => isCode c || P c) = true) (h2 : ∀ c ∈ L.filter isCode, P c = true) : L.all P = true := by
  refine List.all_eq_true.mpr fun c hc => ?_
  have h := List.all_eq_true.mp h1 c hc
  rcases Bool.eq_false_or_eq_true (isCode c) with hi | hi
  · exact h2 c (List.mem_filter.mpr ⟨hc, hi⟩)
  · simpa [hi] using h
set_option maxRecDepth 65536 in
theorem w_c0 : (Jvm.Cond.code x code maxLocals ret).before args0 about1 = true := code_word (m := ⟨1, 1⟩) (meth := k1m1) (c := k1c1) (by decide +kernel) rfl rfl rfl (by decide +kernel)
set_option maxRecDepth 65536 in
theorem w_c1 : (Jvm.Cond.code ({ cls := "java/lang/String", name := "valueOf", desc := "(C)Ljava/lang/String;" } : Jvm.MethodName) jdk_42_method_139_code (1 : Nat) (Option.some (Jvm.ClassFile.FieldType.object "java/lang/String"))).before args0 about1 = true := code_word (m := ⟨7, 1⟩) (meth := k7m1) (c := k7c1) (by decide +kernel) rfl rfl rfl (by decide +kernel)
set_option maxRecDepth 65536 in
theorem w_c2 : (Jvm.Cond.code ({ cls := "java/lang/StringLatin1", name := "canEncode", desc := "(C)Z" } : Jvm.MethodName) jdk_43_method_3_code (1 : Nat) (Option.some Jvm.ClassFile.FieldType.boolean)).before args0 about1 = true := code_word (m := ⟨8, 1⟩) (meth := k8m1) (c := k8c1) (by decide +kernel) rfl rfl rfl (by decide +kernel)
set_option maxRecDepth 65536 in
theorem w_c3 : (Jvm.Cond.code ({ cls := "java/lang/StringLatin1", name := "toBytes", desc := "(C)[B" } : Jvm.MethodName) jdk_43_method_46_code (1 : Nat) (Option.some (Jvm.ClassFile.FieldType.array Jvm.ClassFile.FieldType.byte))).before args0 about1 = true := code_word (m := ⟨8, 2⟩) (meth := k8m2) (c := k8c2) (by decide +kernel) rfl rfl rfl (by decide +kernel)
set_option maxRecDepth 65536 in
theorem w_c4 : (Jvm.Cond.code ({ cls := "java/lang/String", name := "<init>", desc := "([BB)V" } : Jvm.MethodName) jdk_42_method_151_code (3 : Nat) (Option.none : Option Jvm.ClassFile.FieldType)).before args0 about1 = true := code_word (m := ⟨7, 2⟩) (meth := k7m2) (c := k7c2) (by decide +kernel) rfl rfl rfl (by decide +kernel)
set_option maxRecDepth 65536 in
theorem w_c5 : (Jvm.Cond.code ({ cls := "java/lang/Object", name := "<init>", desc := "()V" } : Jvm.MethodName) object_method_1_code (1 : Nat) (Option.none : Option Jvm.ClassFile.FieldType)).before args0 about1 = true := code_word (m := ⟨0, 0⟩) (meth := k0m0) (c := k0c0) (by decide +kernel) rfl rfl rfl (by decide +kernel)
set_option maxRecDepth 65536 in
theorem w_c6 : (Jvm.Cond.code ({ cls := "com/example/errand_queue/errandqueue/network/Link", name := "<init>", desc := "(Ljava/lang/String;Ljava/lang/String;Ljava/lang/String;DIDD)V" } : Jvm.MethodName) prog_13_method_1_code (11 : Nat) (Option.none : Option Jvm.ClassFile.FieldType)).before args0 about1 = true := code_word (m := ⟨10, 0⟩) (meth := k10m0) (c := k10c0) (by decide +kernel) rfl rfl rfl (by decide +kernel)
set_option maxRecDepth 65536 in
theorem w_c7 : (Jvm.Cond.code ({ cls := "java/lang/Record", name := "<init>", desc := "()V" } : Jvm.MethodName) jdk_30_method_1_code (1 : Nat) (Option.none : Option Jvm.ClassFile.FieldType)).before args0 about1 = true := code_word (m := ⟨9, 0⟩) (meth := k9m0) (c := k9c0) (by decide +kernel) rfl rfl rfl (by decide +kernel)
set_option maxRecDepth 65536 in
theorem w_c8 : (Jvm.Cond.code ({ cls := "java/util/Objects", name := "requireNonNull", desc := "(Ljava/lang/Object;Ljava/lang/String;)Ljava/lang/Object;" } : Jvm.MethodName) jdk_31_method_11_code (2 : Nat) (Option.some (Jvm.ClassFile.FieldType.object "java/lang/Object"))).before args0 about1 = true := code_word (m := ⟨11, 1⟩) (meth := k11m1) (c := k11c1) (by decide +kernel) rfl rfl rfl (by decide +kernel)
set_option maxRecDepth 65536 in
theorem w_c9 : (Jvm.Cond.code ({ cls := "java/lang/Double", name := "isFinite", desc := "(D)Z" } : Jvm.MethodName) jdk_117_method_8_code (2 : Nat) (Option.some Jvm.ClassFile.FieldType.boolean)).before args0 about1 = true := code_word (m := ⟨13, 0⟩) (meth := k13m0) (c := k13c0) (by decide +kernel) rfl rfl rfl (by decide +kernel)
set_option maxRecDepth 65536 in
theorem w_c10 : (Jvm.Cond.code ({ cls := "java/lang/Math", name := "abs", desc := "(D)D" } : Jvm.MethodName) jdk_29_method_64_code (2 : Nat) (Option.some Jvm.ClassFile.FieldType.double)).before args0 about1 = true := code_word (m := ⟨14, 1⟩) (meth := k14m1) (c := k14c1) (by decide +kernel) rfl rfl rfl (by decide +kernel)
set_option maxRecDepth 65536 in
theorem w_c11 : (Jvm.Cond.code ({ cls := "com/example/errand_queue/errandqueue/network/Link", name := "outflowPerSecond", desc := "()D" } : Jvm.MethodName) prog_13_method_3_code (1 : Nat) (Option.some Jvm.ClassFile.FieldType.double)).before args0 about1 = true := code_word (m := ⟨10, 1⟩) (meth := k10m1) (c := k10c1) (by decide +kernel) rfl rfl rfl (by decide +kernel)
set_option maxRecDepth 65536 in
theorem w_c12 : (Jvm.Cond.code ({ cls := "com/example/errand_queue/errandqueue/network/Link", name := "outflowCapacity", desc := "()D" } : Jvm.MethodName) prog_13_method_15_code (1 : Nat) (Option.some Jvm.ClassFile.FieldType.double)).before args0 about1 = true := code_word (m := ⟨10, 2⟩) (meth := k10m2) (c := k10c2) (by decide +kernel) rfl rfl rfl (by decide +kernel)
set_option maxRecDepth 65536 in
theorem w_c13 : (Jvm.Cond.code ({ cls := "com/example/errand_queue/errandqueue/network/TimeUnit", name := "seconds", desc := "()D" } : Jvm.MethodName) prog_19_method_7_code (1 : Nat) (Option.some Jvm.ClassFile.FieldType.double)).before args0 about1 = true := code_word (m := ⟨16, 0⟩) (meth := k16m0) (c := k16c0) (by decide +kernel) rfl rfl rfl (by decide +kernel)
def codes1 : List Jvm.Cond := [Jvm.Cond.code x code maxLocals ret, Jvm.Cond.code ({ cls := "java/lang/String", name := "valueOf", desc := "(C)Ljava/lang/String;" } : Jvm.MethodName) jdk_42_method_139_code (1 : Nat) (Option.some (Jvm.ClassFile.FieldType.object "java/lang/String")), Jvm.Cond.code ({ cls := "java/lang/StringLatin1", name := "canEncode", desc := "(C)Z" } : Jvm.MethodName) jdk_43_method_3_code (1 : Nat) (Option.some Jvm.ClassFile.FieldType.boolean), Jvm.Cond.code ({ cls := "java/lang/StringLatin1", name := "toBytes", desc := "(C)[B" } : Jvm.MethodName) jdk_43_method_46_code (1 : Nat) (Option.some (Jvm.ClassFile.FieldType.array Jvm.ClassFile.FieldType.byte)), Jvm.Cond.code ({ cls := "java/lang/String", name := "<init>", desc := "([BB)V" } : Jvm.MethodName) jdk_42_method_151_code (3 : Nat) (Option.none : Option Jvm.ClassFile.FieldType), Jvm.Cond.code ({ cls := "java/lang/Object", name := "<init>", desc := "()V" } : Jvm.MethodName) object_method_1_code (1 : Nat) (Option.none : Option Jvm.ClassFile.FieldType), Jvm.Cond.code ({ cls := "com/example/errand_queue/errandqueue/network/Link", name := "<init>", desc := "(Ljava/lang/String;Ljava/lang/String;Ljava/lang/String;DIDD)V" } : Jvm.MethodName) prog_13_method_1_code (11 : Nat) (Option.none : Option Jvm.ClassFile.FieldType), Jvm.Cond.code ({ cls := "java/lang/Record", name := "<init>", desc := "()V" } : Jvm.MethodName) jdk_30_method_1_code (1 : Nat) (Option.none : Option Jvm.ClassFile.FieldType), Jvm.Cond.code ({ cls := "java/util/Objects", name := "requireNonNull", desc := "(Ljava/lang/Object;Ljava/lang/String;)Ljava/lang/Object;" } : Jvm.MethodName) jdk_31_method_11_code (2 : Nat) (Option.some (Jvm.ClassFile.FieldType.object "java/lang/Object")), Jvm.Cond.code ({ cls := "java/lang/Double", name := "isFinite", desc := "(D)Z" } : Jvm.MethodName) jdk_117_method_8_code (2 : Nat) (Option.some Jvm.ClassFile.FieldType.boolean), Jvm.Cond.code ({ cls := "java/lang/Math", name := "abs", desc := "(D)D" } : Jvm.MethodName) jdk_29_method_64_code (2 : Nat) (Option.some Jvm.ClassFile.FieldType.double), Jvm.Cond.code ({ cls := "com/example/errand_queue/errandqueue/network/Link", name := "outflowPerSecond", desc := "()D" } : Jvm.MethodName) prog_13_method_3_code (1 : Nat) (Option.some Jvm.ClassFile.FieldType.double), Jvm.Cond.code ({ cls := "com/example/errand_queue/errandqueue/network/Link", name := "outflowCapacity", desc := "()D" } : Jvm.MethodName) prog_13_method_15_code (1 : Nat) (Option.some Jvm.ClassFile.FieldType.double), Jvm.Cond.code ({ cls := "com/example/errand_queue/errandqueue/network/TimeUnit", name := "seconds", desc := "()D" } : Jvm.MethodName) prog_19_method_7_code (1 : Nat) (Option.some Jvm.ClassFile.FieldType.double)]
set_option maxRecDepth 65536 in
theorem codes_eq : words1.filter isCode = codes1 := rfl
theorem w_codes : ∀ c ∈ words1.filter isCode, c.before args0 about1 = true := by
  rw [codes_eq]
  intro c hc
  simp only [codes1, List.mem_cons, List.not_mem_nil, or_false] at hc
  rcases hc with rfl | rfl | rfl | rfl | rfl | rfl | rfl | rfl | rfl | rfl | rfl | rfl | rfl | rfl
  · exact w_c0
  · exact w_c1
  · exact w_c2
  · exact w_c3
  · exact w_c4
  · exact w_c5
  · exact w_c6
  · exact w_c7
  · exact w_c8
  · exact w_c9
  · exact w_c10
  · exact w_c11
  · exact w_c12
  · exact w_c13
set_option maxRecDepth 65536 in
theorem w_t1 : (words1.take 24).all (fun c => isCode c || c.before args0 about1) = true := by decide +kernel
set_option maxRecDepth 65536 in
theorem w_t2 : ((words1.drop 24).take 24).all (fun c => isCode c || c.before args0 about1) = true := by decide +kernel
set_option maxRecDepth 65536 in
theorem w_t3 : (((words1.drop 24).drop 24).take 24).all (fun c => isCode c || c.before args0 about1) = true := by decide +kernel
set_option maxRecDepth 65536 in
theorem w_t4 : (((words1.drop 24).drop 24).drop 24).all (fun c => isCode c || c.before args0 about1) = true := by decide +kernel
theorem w_tables : (allAtoms (Jvm.Cond.code x code maxLocals ret :: tables_1)).before args0 about1 = true := by
  rw [allAtoms_all]
  show words1.all (fun c => c.before args0 about1) = true
  refine all_split ?_ w_codes
  rw [← List.take_append_drop 24 words1, List.all_append, w_t1, ← List.take_append_drop 24 (words1.drop 24), List.all_append, w_t2, ← List.take_append_drop 24 ((words1.drop 24).drop 24), List.all_append, w_t3, w_t4]
  rfl
set_option maxRecDepth 65536 in
theorem w_rest : rest_1_c.before args0 about1 = true := by decide +kernel
set_option maxRecDepth 65536 in
theorem w_case : (Jvm.Cond.and given_1 narrow_1).before args0 about1 = true := by decide +kernel
theorem w_applies : (headSpec (Jvm.Cond.code x code maxLocals ret :: tables_1) room_1).applies x e0.platform about1 = true :=
  (Spec.applies_iff w_frames).mpr ⟨w_running, w_runnable, w_alone, w_named, w_hears, w_ripe, w_room, w_tables⟩
theorem atStart : AtStart classFile x code maxLocals ret World_1 tables_1 room_1 Calls_1 rest_1 Pre_1 launch0 p0 e0 about1 theMethod args0 below0 :=
  ⟨lists_1, trivial, launch0.admits_env _ _ _, launch0.least_env, fairChoices_fair.cas, fairChoices_fair.clock, w_frames, w_args, w_heap, w_applies, trivial, w_rest, w_case⟩
end start1
theorem witness_1 : WitnessClaimed_1 := ⟨start1.p0, start1.e0, start1.about1, start1.theMethod, start1.args0, start1.below0, start1.atStart⟩
end Jvm.Pilot.@@N@@

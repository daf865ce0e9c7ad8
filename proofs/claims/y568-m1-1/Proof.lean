import JvmDerived
import JvmDerived.Pilot.@@N@@Statement
import JvmDerived.Pilot.@@N@@Code
set_option linter.unusedVariables false
set_option linter.unusedSimpArgs false
namespace Jvm.Pilot.@@N@@
open Jvm Jvm.ClassFile Sem Op Lib Jvm.Free Jvm.Stand Jvm.LawKit Jvm.RoadKit Bundle Jvm.Pilot.@@N@@.Jvm.D
/-- from the frame g over T the run comes to its end, and P holds of what comes out -/
def Wp (p : Program) (e : Env) (below : List Frame) (P : Outcome → State → Prop) (T : State) (g : JFrame) : Prop := ∃ s₂ o, Steps p.tables e below (T.setTop g) s₂ ∧ s₂.status = .running ∧ Ended s₂ below o ∧ P o s₂
/-- where a walk stands -/
def WS (p : Program) (l : Launch) (e : Env) (R : Room) (s : State) (m : MethodId) (args : Array Value) (below : List Frame) (meth : Method) (c : Code) (Z : State) (EL : List (String × Nat)) (n0 : Nat) (own : String) (code : ByteArray) (ml : Nat) (bw : Bool) (vm : Vm) (T : State) (h : Heap) (locs : List Loc) (cells slots : Nat) : Prop :=
  Stand p l e R (s.setVm vm) m args below meth c T locs cells slots ∧ T.heap = h ∧ Z.Warmed39 (s.setVm vm).vm ∧ (s.setVm vm).vm.findClass own = some m.cls ∧ p.tables.exec = Jvm.exec ∧ c.code = code ∧ c.maxLocals = ml ∧ Fr n0 locs ∧ Old Z n0 h ∧ ((bw = false ∧ vm = s.vm) ∨ (bw = true ∧ (∃ k, s.Since vm k ∧ k ≤ h.size) ∧ CHr Z EL s.vm s.heap vm h))
/-- what a callee's payer gives: a callee that interns nothing -/
def BkN (l : Launch) (R : Room) (p : Program) (e : Env) (below : List Frame) (s : State) (args : Array Value) (y : MethodName) (len W : Nat) (as' : Array Value) (h : Heap) (n0 : Nat) (wr : List Addr) (Q : Option Value → Heap → Prop) (kc ks : Nat) : Prop := Back l R p e below s args y len W (fun B a => a = as' ∧ B.U.heap = h ∧ B.cells + kc ≤ R.cells ∧ B.slots + ks ≤ R.slots) (fun B _ v B' => ∃ L, (Fr n0 L ∧ Keep h B'.U.heap wr ∧ Q v B'.U.heap) ∧ B'.locs = B.locs ++ L ∧ B'.cells = B.cells + kc ∧ B'.slots = B.slots + ks)
/-- .. and one that may -/
def BkS (l : Launch) (R : Room) (p : Program) (e : Env) (below : List Frame) (s : State) (args : Array Value) (y : MethodName) (len W : Nat) (as' : Array Value) (h : Heap) (n0 : Nat) (wr : List Addr) (Q : Option Value → Heap → Prop) (kc ks : Nat) (Z : State) (EL : List (String × Nat)) (vm : Vm) : Prop := BackS l R p e below s args y len W (fun B a => a = as' ∧ B.U.heap = h ∧ B.cells + kc ≤ R.cells ∧ B.slots + ks ≤ R.slots) (fun B _ v B' => ∃ L, (Fr n0 L ∧ Keep h B'.U.heap wr ∧ Q v B'.U.heap) ∧ B'.locs = B.locs ++ L ∧ B'.cells = B.cells + kc ∧ B'.slots = B.slots + ks ∧ CHr Z EL vm h B'.U.vm B'.U.heap)
section OwnKit
variable {p : Program} {l : Launch} {e : Env} {R : Room} {s : State} {m : MethodId} {args : Array Value} {below : List Frame} {meth : Method} {c : Code} {Z : State} {EL : List (String × Nat)} {n0 : Nat} {own : String} {code : ByteArray} {ml : Nat} {bw : Bool} {vm : Vm} {T : State} {h : Heap} {locs : List Loc} {cells slots : Nat} {P : Outcome → State → Prop} {pc pc' : Nat} {L : Array Slot} {S : List Value} {a0 : Array Value}
theorem Wp.go {T T' : State} {g g' : JFrame} (k : Wp p e below P T' g') (st : ∀ t, Steps p.tables e below (T'.setTop g') t → Steps p.tables e below (T.setTop g) t) : Wp p e below P T g := by
  obtain ⟨s₂, o, a, r⟩ := k; exact ⟨s₂, o, st _ a, r⟩
theorem Wp.gos {T T' : State} {g g' : JFrame} (k : Wp p e below P T' g') (st : Steps p.tables e below (T.setTop g) (T'.setTop g')) : Wp p e below P T g := by
  obtain ⟨s₂, o, a, r⟩ := k; exact ⟨s₂, o, st.trans a, r⟩
abbrev wN (bw : Bool) (Z : State) (EL : List (String × Nat)) (vm : Vm) (h : Heap) (a : Addr) : Prop := bw = true → Safe Z EL vm h a
/-- a step of the tables alone -/
theorem WS.still {T' : State} (A : WS p l e R s m args below meth c Z EL n0 own code ml bw vm T h locs cells slots) (X : Stand p l e R (s.setVm vm) m args below meth c T' locs cells slots) (q : T'.heap = h) : WS p l e R s m args below meth c Z EL n0 own code ml bw vm T' h locs cells slots :=
  ⟨X, q, A.2.2⟩
theorem WS.grow {T' : State} {h' : Heap} {k n : Nat} (A : WS p l e R s m args below meth c Z EL n0 own code ml bw vm T h locs cells slots) (X : Stand p l e R (s.setVm vm) m args below meth c T' locs k n) (q : T'.heap = h') (E : Ext h h') : WS p l e R s m args below meth c Z EL n0 own code ml bw vm T' h' locs k n := by
  obtain ⟨-, -, a3, a4, a5, a6, a7, a8, a9, b⟩ := A
  refine ⟨X, q, a3, a4, a5, a6, a7, a8, a9.ext E, b.imp id fun ⟨b1, ⟨k, b2, b3⟩, b4⟩ => ⟨b1, ⟨k, b2, Nat.le_trans b3 E.1⟩, b4.trans (CHr.ext E b4.1)⟩⟩
theorem WS.kept {T' : State} {h' : Heap} {locs' : List Loc} {k n : Nat} {ws : List Addr} (A : WS p l e R s m args below meth c Z EL n0 own code ml bw vm T h locs cells slots) (X : Stand p l e R (s.setVm vm) m args below meth c T' locs' k n) (q : T'.heap = h') (N : Fr n0 locs') (K : Keep h h' ws) (hn : ∀ x ∈ ws, n0 ≤ x) (sf : bw = true → ∀ x ∈ ws, Safe Z EL vm h x) : WS p l e R s m args below meth c Z EL n0 own code ml bw vm T' h' locs' k n := by
  obtain ⟨-, -, a3, a4, a5, a6, a7, a8, a9, b⟩ := A
  refine ⟨X, q, a3, a4, a5, a6, a7, N, a9.keep K hn, b.imp id fun ⟨b1, ⟨k, b2, b3⟩, b4⟩ => ⟨b1, ⟨k, b2, Nat.le_trans b3 K.1⟩, b4.trans (CHr.keep K (sf b1) b4.1)⟩⟩
theorem WS.old (A : WS p l e R s m args below meth c Z EL n0 own code ml bw vm T h locs cells slots) : Old Z n0 h := A.2.2.2.2.2.2.2.2.1
theorem WS.sz (A : WS p l e R s m args below meth c Z EL n0 own code ml bw vm T h locs cells slots) : n0 ≤ h.size := by have q := A.old; exact q.1 ▸ q.2.1
theorem WS.hZ (A : WS p l e R s m args below meth c Z EL n0 own code ml bw vm T h locs cells slots) : Z.Warmed39 (s.setVm vm).vm := A.2.2.1
theorem WS.ch (A : WS p l e R s m args below meth c Z EL n0 own code ml bw vm T h locs cells slots) (q : bw = true) : CHr Z EL s.vm s.heap vm h := by
  obtain ⟨-, -, -, -, -, -, -, -, -, b⟩ := A
  rcases b with ⟨b, -⟩ | ⟨-, -, b⟩
  · rw [b] at q; cases q
  · exact b
theorem wd {ws : List Jvm.Cond} (hw : ∀ d ∈ ws, d.before a0 Z = true) (i : Nat) {d : Jvm.Cond} (q : ws[i]? = some d) : d.before a0 Z = true := hw _ (List.mem_of_getElem? q)
theorem Fld.ks {a : Addr} {C n d : String} {v : Value} {h h' : Heap} {ws : List Addr} (F : Fld Z h a C n d v) (K : Keep h h' ws) (q : a ∉ ws) : Fld Z h' a C n d v := F.keep K q

theorem f_iload (A : WS p l e R s m args below meth c Z EL n0 own code ml bw vm T h locs cells slots) {i : Nat} {v : Int32} (hd : decode code pc = .ok (.iload i, 2)) (hp : pc + 2 = pc') (hl : L[i]? = some (.val (.int v))) (k : Wp p e below P T (mkF m pc' L (.int v :: S))) : Wp p e below P T (mkF m pc L S) := by
  subst hp; exact k.go fun _ q => XS.iload A.1.here A.2.2.2.2.1 rfl (hb A.2.2.2.2.2.1 hd) hl q
theorem f_iloadN (A : WS p l e R s m args below meth c Z EL n0 own code ml bw vm T h locs cells slots) {i : Fin 4} {v : Int32} (hd : decode code pc = .ok (.iload_n i, 1)) (hp : pc + 1 = pc') (hl : L[i.val]? = some (.val (.int v))) (k : Wp p e below P T (mkF m pc' L (.int v :: S))) : Wp p e below P T (mkF m pc L S) := by
  subst hp; exact k.go fun _ q => XS.iloadN A.1.here A.2.2.2.2.1 rfl (hb A.2.2.2.2.2.1 hd) hl q
theorem f_istore (A : WS p l e R s m args below meth c Z EL n0 own code ml bw vm T h locs cells slots) {i : Nat} {v : Int32} {L' : Array Slot} (hd : decode code pc = .ok (.istore i, 2)) (hp : pc + 2 = pc') (hl : storeLocals L i (.int v) = some L') (k : Wp p e below P T (mkF m pc' L' S)) : Wp p e below P T (mkF m pc L (.int v :: S)) := by
  subst hp; exact k.go fun _ q => XS.istore A.1.here A.2.2.2.2.1 rfl (hb A.2.2.2.2.2.1 hd) rfl hl q
theorem f_istoreN (A : WS p l e R s m args below meth c Z EL n0 own code ml bw vm T h locs cells slots) {i : Fin 4} {v : Int32} {L' : Array Slot} (hd : decode code pc = .ok (.istore_n i, 1)) (hp : pc + 1 = pc') (hl : storeLocals L i.val (.int v) = some L') (k : Wp p e below P T (mkF m pc' L' S)) : Wp p e below P T (mkF m pc L (.int v :: S)) := by
  subst hp; exact k.go fun _ q => XS.istoreN A.1.here A.2.2.2.2.1 rfl (hb A.2.2.2.2.2.1 hd) rfl hl q
theorem f_lload (A : WS p l e R s m args below meth c Z EL n0 own code ml bw vm T h locs cells slots) {i : Nat} {v : Int64} (hd : decode code pc = .ok (.lload i, 2)) (hp : pc + 2 = pc') (hl : L[i]? = some (.val (.long v))) (k : Wp p e below P T (mkF m pc' L (.long v :: S))) : Wp p e below P T (mkF m pc L S) := by
  subst hp; exact k.go fun _ q => XS.lload A.1.here A.2.2.2.2.1 rfl (hb A.2.2.2.2.2.1 hd) hl q
theorem f_lloadN (A : WS p l e R s m args below meth c Z EL n0 own code ml bw vm T h locs cells slots) {i : Fin 4} {v : Int64} (hd : decode code pc = .ok (.lload_n i, 1)) (hp : pc + 1 = pc') (hl : L[i.val]? = some (.val (.long v))) (k : Wp p e below P T (mkF m pc' L (.long v :: S))) : Wp p e below P T (mkF m pc L S) := by
  subst hp; exact k.go fun _ q => XS.lloadN A.1.here A.2.2.2.2.1 rfl (hb A.2.2.2.2.2.1 hd) hl q
theorem f_lstore (A : WS p l e R s m args below meth c Z EL n0 own code ml bw vm T h locs cells slots) {i : Nat} {v : Int64} {L' : Array Slot} (hd : decode code pc = .ok (.lstore i, 2)) (hp : pc + 2 = pc') (hl : storeLocals L i (.long v) = some L') (k : Wp p e below P T (mkF m pc' L' S)) : Wp p e below P T (mkF m pc L (.long v :: S)) := by
  subst hp; exact k.go fun _ q => XS.lstore A.1.here A.2.2.2.2.1 rfl (hb A.2.2.2.2.2.1 hd) rfl hl q
theorem f_lstoreN (A : WS p l e R s m args below meth c Z EL n0 own code ml bw vm T h locs cells slots) {i : Fin 4} {v : Int64} {L' : Array Slot} (hd : decode code pc = .ok (.lstore_n i, 1)) (hp : pc + 1 = pc') (hl : storeLocals L i.val (.long v) = some L') (k : Wp p e below P T (mkF m pc' L' S)) : Wp p e below P T (mkF m pc L (.long v :: S)) := by
  subst hp; exact k.go fun _ q => XS.lstoreN A.1.here A.2.2.2.2.1 rfl (hb A.2.2.2.2.2.1 hd) rfl hl q
theorem f_aload (A : WS p l e R s m args below meth c Z EL n0 own code ml bw vm T h locs cells slots) {i : Nat} {v : Value} (hd : decode code pc = .ok (.aload i, 2)) (hp : pc + 2 = pc') (hl : L[i]? = some (.val v)) (hv : v.isRef = true) (k : Wp p e below P T (mkF m pc' L (v :: S))) : Wp p e below P T (mkF m pc L S) := by
  subst hp; exact k.go fun _ q => XS.aload A.1.here A.2.2.2.2.1 rfl (hb A.2.2.2.2.2.1 hd) hl hv q
theorem f_aloadN (A : WS p l e R s m args below meth c Z EL n0 own code ml bw vm T h locs cells slots) {i : Fin 4} {v : Value} (hd : decode code pc = .ok (.aload_n i, 1)) (hp : pc + 1 = pc') (hl : L[i.val]? = some (.val v)) (hv : v.isRef = true) (k : Wp p e below P T (mkF m pc' L (v :: S))) : Wp p e below P T (mkF m pc L S) := by
  subst hp; exact k.go fun _ q => XS.aloadN A.1.here A.2.2.2.2.1 rfl (hb A.2.2.2.2.2.1 hd) hl hv q
theorem f_astore (A : WS p l e R s m args below meth c Z EL n0 own code ml bw vm T h locs cells slots) {i : Nat} {v : Value} {L' : Array Slot} (hd : decode code pc = .ok (.astore i, 2)) (hp : pc + 2 = pc') (hv : v.isRef = true) (hl : storeLocals L i v = some L') (k : Wp p e below P T (mkF m pc' L' S)) : Wp p e below P T (mkF m pc L (v :: S)) := by
  subst hp; exact k.go fun _ q => XS.astore A.1.here A.2.2.2.2.1 rfl (hb A.2.2.2.2.2.1 hd) rfl hv hl q
theorem f_astoreN (A : WS p l e R s m args below meth c Z EL n0 own code ml bw vm T h locs cells slots) {i : Fin 4} {v : Value} {L' : Array Slot} (hd : decode code pc = .ok (.astore_n i, 1)) (hp : pc + 1 = pc') (hv : v.isRef = true) (hl : storeLocals L i.val v = some L') (k : Wp p e below P T (mkF m pc' L' S)) : Wp p e below P T (mkF m pc L (v :: S)) := by
  subst hp; exact k.go fun _ q => XS.astoreN A.1.here A.2.2.2.2.1 rfl (hb A.2.2.2.2.2.1 hd) rfl hv hl q
theorem f_iconst (A : WS p l e R s m args below meth c Z EL n0 own code ml bw vm T h locs cells slots) {i : Int} (hd : decode code pc = .ok (.iconst i, 1)) (hp : pc + 1 = pc') (v : Int32) (hv : Int32.ofInt i = v) (k : Wp p e below P T (mkF m pc' L (.int v :: S))) : Wp p e below P T (mkF m pc L S) := by
  subst hp hv; exact k.go fun _ q => XS.iconst A.1.here A.2.2.2.2.1 rfl (hb A.2.2.2.2.2.1 hd) q
theorem f_bipush (A : WS p l e R s m args below meth c Z EL n0 own code ml bw vm T h locs cells slots) {i : Int} (hd : decode code pc = .ok (.bipush i, 2)) (hp : pc + 2 = pc') (v : Int32) (hv : (Int8.ofInt i).toInt32 = v) (k : Wp p e below P T (mkF m pc' L (.int v :: S))) : Wp p e below P T (mkF m pc L S) := by
  subst hp hv; exact k.go fun _ q => XS.bipush A.1.here A.2.2.2.2.1 rfl (hb A.2.2.2.2.2.1 hd) q
theorem f_sipush (A : WS p l e R s m args below meth c Z EL n0 own code ml bw vm T h locs cells slots) {i : Int} (hd : decode code pc = .ok (.sipush i, 3)) (hp : pc + 3 = pc') (v : Int32) (hv : (Int16.ofInt i).toInt32 = v) (k : Wp p e below P T (mkF m pc' L (.int v :: S))) : Wp p e below P T (mkF m pc L S) := by
  subst hp hv; exact k.go fun _ q => XS.sipush A.1.here A.2.2.2.2.1 rfl (hb A.2.2.2.2.2.1 hd) q
theorem f_lconst (A : WS p l e R s m args below meth c Z EL n0 own code ml bw vm T h locs cells slots) {i : Fin 2} (hd : decode code pc = .ok (.lconst i, 1)) (hp : pc + 1 = pc') (v : Int64) (hv : Int64.ofNat i = v) (k : Wp p e below P T (mkF m pc' L (.long v :: S))) : Wp p e below P T (mkF m pc L S) := by
  subst hp hv; exact k.go fun _ q => XS.lconst A.1.here A.2.2.2.2.1 rfl (hb A.2.2.2.2.2.1 hd) q
theorem f_aconst_null (A : WS p l e R s m args below meth c Z EL n0 own code ml bw vm T h locs cells slots) (hd : decode code pc = .ok (.aconst_null, 1)) (hp : pc + 1 = pc') (k : Wp p e below P T (mkF m pc' L (.null :: S))) : Wp p e below P T (mkF m pc L S) := by
  subst hp; exact k.go fun _ q => XS.aconstNull A.1.here A.2.2.2.2.1 rfl (hb A.2.2.2.2.2.1 hd) q
theorem f_ldcI (A : WS p l e R s m args below meth c Z EL n0 own code ml bw vm T h locs cells slots) {i : Nat} {v : Int32} (hd : decode code pc = .ok (.ldc i, 2)) (hp : pc + 2 = pc') (w : (Cond.constant own i v).before a0 Z = true) (k : Wp p e below P T (mkF m pc' L (.int v :: S))) : Wp p e below P T (mkF m pc L S) := by
  subst hp; exact k.go fun t q => A.1.ldcInt A.2.2.2.2.1 A.2.2.2.1 (mvT A.hZ w) (g := mkF m pc L S) rfl (hb A.2.2.2.2.2.1 hd) t q
theorem f_ldc2J (A : WS p l e R s m args below meth c Z EL n0 own code ml bw vm T h locs cells slots) {i : Nat} {v : Int64} (hd : decode code pc = .ok (.ldc2_w i, 3)) (hp : pc + 3 = pc') (w : (Cond.constantLong own i v).before a0 Z = true) (k : Wp p e below P T (mkF m pc' L (.long v :: S))) : Wp p e below P T (mkF m pc L S) := by
  subst hp; exact k.go fun t q => A.1.ldc2Long A.2.2.2.2.1 A.2.2.2.1 (mvT A.hZ w) (g := mkF m pc L S) rfl (hb A.2.2.2.2.2.1 hd) t q
theorem f_iadd (A : WS p l e R s m args below meth c Z EL n0 own code ml bw vm T h locs cells slots) {x y : Int32} (hd : decode code pc = .ok (.iadd, 1)) (hp : pc + 1 = pc') (z : Int32) (hz : x + y = z) (k : Wp p e below P T (mkF m pc' L (.int z :: S))) : Wp p e below P T (mkF m pc L (.int y :: .int x :: S)) := by
  subst hp hz; exact k.go fun _ q => XS.iadd A.1.here A.2.2.2.2.1 rfl (hb A.2.2.2.2.2.1 hd) rfl q
theorem f_isub (A : WS p l e R s m args below meth c Z EL n0 own code ml bw vm T h locs cells slots) {x y : Int32} (hd : decode code pc = .ok (.isub, 1)) (hp : pc + 1 = pc') (z : Int32) (hz : x - y = z) (k : Wp p e below P T (mkF m pc' L (.int z :: S))) : Wp p e below P T (mkF m pc L (.int y :: .int x :: S)) := by
  subst hp hz; exact k.go fun _ q => XS.isub A.1.here A.2.2.2.2.1 rfl (hb A.2.2.2.2.2.1 hd) rfl q
theorem f_imul (A : WS p l e R s m args below meth c Z EL n0 own code ml bw vm T h locs cells slots) {x y : Int32} (hd : decode code pc = .ok (.imul, 1)) (hp : pc + 1 = pc') (z : Int32) (hz : x * y = z) (k : Wp p e below P T (mkF m pc' L (.int z :: S))) : Wp p e below P T (mkF m pc L (.int y :: .int x :: S)) := by
  subst hp hz; exact k.go fun _ q => XS.imul A.1.here A.2.2.2.2.1 rfl (hb A.2.2.2.2.2.1 hd) rfl q
theorem f_iand (A : WS p l e R s m args below meth c Z EL n0 own code ml bw vm T h locs cells slots) {x y : Int32} (hd : decode code pc = .ok (.iand, 1)) (hp : pc + 1 = pc') (z : Int32) (hz : x &&& y = z) (k : Wp p e below P T (mkF m pc' L (.int z :: S))) : Wp p e below P T (mkF m pc L (.int y :: .int x :: S)) := by
  subst hp hz; exact k.go fun _ q => XS.iand A.1.here A.2.2.2.2.1 rfl (hb A.2.2.2.2.2.1 hd) rfl q
theorem f_ior (A : WS p l e R s m args below meth c Z EL n0 own code ml bw vm T h locs cells slots) {x y : Int32} (hd : decode code pc = .ok (.ior, 1)) (hp : pc + 1 = pc') (z : Int32) (hz : x ||| y = z) (k : Wp p e below P T (mkF m pc' L (.int z :: S))) : Wp p e below P T (mkF m pc L (.int y :: .int x :: S)) := by
  subst hp hz; exact k.go fun _ q => XS.ior A.1.here A.2.2.2.2.1 rfl (hb A.2.2.2.2.2.1 hd) rfl q
theorem f_ixor (A : WS p l e R s m args below meth c Z EL n0 own code ml bw vm T h locs cells slots) {x y : Int32} (hd : decode code pc = .ok (.ixor, 1)) (hp : pc + 1 = pc') (z : Int32) (hz : x ^^^ y = z) (k : Wp p e below P T (mkF m pc' L (.int z :: S))) : Wp p e below P T (mkF m pc L (.int y :: .int x :: S)) := by
  subst hp hz; exact k.go fun _ q => XS.ixor A.1.here A.2.2.2.2.1 rfl (hb A.2.2.2.2.2.1 hd) rfl q
theorem f_ishl (A : WS p l e R s m args below meth c Z EL n0 own code ml bw vm T h locs cells slots) {x y : Int32} (hd : decode code pc = .ok (.ishl, 1)) (hp : pc + 1 = pc') (z : Int32) (hz : x <<< (y &&& 31) = z) (k : Wp p e below P T (mkF m pc' L (.int z :: S))) : Wp p e below P T (mkF m pc L (.int y :: .int x :: S)) := by
  subst hp hz; exact k.go fun _ q => XS.ishl A.1.here A.2.2.2.2.1 rfl (hb A.2.2.2.2.2.1 hd) rfl q
theorem f_ishr (A : WS p l e R s m args below meth c Z EL n0 own code ml bw vm T h locs cells slots) {x y : Int32} (hd : decode code pc = .ok (.ishr, 1)) (hp : pc + 1 = pc') (z : Int32) (hz : x >>> (y &&& 31) = z) (k : Wp p e below P T (mkF m pc' L (.int z :: S))) : Wp p e below P T (mkF m pc L (.int y :: .int x :: S)) := by
  subst hp hz; exact k.go fun _ q => XS.ishr A.1.here A.2.2.2.2.1 rfl (hb A.2.2.2.2.2.1 hd) rfl q
theorem f_iushr (A : WS p l e R s m args below meth c Z EL n0 own code ml bw vm T h locs cells slots) {x y : Int32} (hd : decode code pc = .ok (.iushr, 1)) (hp : pc + 1 = pc') (z : Int32) (hz : (x.toUInt32 >>> (y &&& 31).toUInt32).toInt32 = z) (k : Wp p e below P T (mkF m pc' L (.int z :: S))) : Wp p e below P T (mkF m pc L (.int y :: .int x :: S)) := by
  subst hp hz; exact k.go fun _ q => XS.iushr A.1.here A.2.2.2.2.1 rfl (hb A.2.2.2.2.2.1 hd) rfl q
theorem f_ladd (A : WS p l e R s m args below meth c Z EL n0 own code ml bw vm T h locs cells slots) {x y : Int64} (hd : decode code pc = .ok (.ladd, 1)) (hp : pc + 1 = pc') (z : Int64) (hz : x + y = z) (k : Wp p e below P T (mkF m pc' L (.long z :: S))) : Wp p e below P T (mkF m pc L (.long y :: .long x :: S)) := by
  subst hp hz; exact k.go fun _ q => XS.ladd A.1.here A.2.2.2.2.1 rfl (hb A.2.2.2.2.2.1 hd) rfl q
theorem f_lsub (A : WS p l e R s m args below meth c Z EL n0 own code ml bw vm T h locs cells slots) {x y : Int64} (hd : decode code pc = .ok (.lsub, 1)) (hp : pc + 1 = pc') (z : Int64) (hz : x - y = z) (k : Wp p e below P T (mkF m pc' L (.long z :: S))) : Wp p e below P T (mkF m pc L (.long y :: .long x :: S)) := by
  subst hp hz; exact k.go fun _ q => XS.lsub A.1.here A.2.2.2.2.1 rfl (hb A.2.2.2.2.2.1 hd) rfl q
theorem f_lmul (A : WS p l e R s m args below meth c Z EL n0 own code ml bw vm T h locs cells slots) {x y : Int64} (hd : decode code pc = .ok (.lmul, 1)) (hp : pc + 1 = pc') (z : Int64) (hz : x * y = z) (k : Wp p e below P T (mkF m pc' L (.long z :: S))) : Wp p e below P T (mkF m pc L (.long y :: .long x :: S)) := by
  subst hp hz; exact k.go fun _ q => XS.lmul A.1.here A.2.2.2.2.1 rfl (hb A.2.2.2.2.2.1 hd) rfl q
theorem f_land (A : WS p l e R s m args below meth c Z EL n0 own code ml bw vm T h locs cells slots) {x y : Int64} (hd : decode code pc = .ok (.land, 1)) (hp : pc + 1 = pc') (z : Int64) (hz : x &&& y = z) (k : Wp p e below P T (mkF m pc' L (.long z :: S))) : Wp p e below P T (mkF m pc L (.long y :: .long x :: S)) := by
  subst hp hz; exact k.go fun _ q => XS.land A.1.here A.2.2.2.2.1 rfl (hb A.2.2.2.2.2.1 hd) rfl q
theorem f_lor (A : WS p l e R s m args below meth c Z EL n0 own code ml bw vm T h locs cells slots) {x y : Int64} (hd : decode code pc = .ok (.lor, 1)) (hp : pc + 1 = pc') (z : Int64) (hz : x ||| y = z) (k : Wp p e below P T (mkF m pc' L (.long z :: S))) : Wp p e below P T (mkF m pc L (.long y :: .long x :: S)) := by
  subst hp hz; exact k.go fun _ q => XS.lor A.1.here A.2.2.2.2.1 rfl (hb A.2.2.2.2.2.1 hd) rfl q
theorem f_lxor (A : WS p l e R s m args below meth c Z EL n0 own code ml bw vm T h locs cells slots) {x y : Int64} (hd : decode code pc = .ok (.lxor, 1)) (hp : pc + 1 = pc') (z : Int64) (hz : x ^^^ y = z) (k : Wp p e below P T (mkF m pc' L (.long z :: S))) : Wp p e below P T (mkF m pc L (.long y :: .long x :: S)) := by
  subst hp hz; exact k.go fun _ q => XS.lxor A.1.here A.2.2.2.2.1 rfl (hb A.2.2.2.2.2.1 hd) rfl q
theorem f_lshl (A : WS p l e R s m args below meth c Z EL n0 own code ml bw vm T h locs cells slots) {x : Int64} {y : Int32} (hd : decode code pc = .ok (.lshl, 1)) (hp : pc + 1 = pc') (z : Int64) (hz : x <<< (y &&& 63).toInt64 = z) (k : Wp p e below P T (mkF m pc' L (.long z :: S))) : Wp p e below P T (mkF m pc L (.int y :: .long x :: S)) := by
  subst hp hz; exact k.go fun _ q => XS.lshl A.1.here A.2.2.2.2.1 rfl (hb A.2.2.2.2.2.1 hd) rfl q
theorem f_lshr (A : WS p l e R s m args below meth c Z EL n0 own code ml bw vm T h locs cells slots) {x : Int64} {y : Int32} (hd : decode code pc = .ok (.lshr, 1)) (hp : pc + 1 = pc') (z : Int64) (hz : x >>> (y &&& 63).toInt64 = z) (k : Wp p e below P T (mkF m pc' L (.long z :: S))) : Wp p e below P T (mkF m pc L (.int y :: .long x :: S)) := by
  subst hp hz; exact k.go fun _ q => XS.lshr A.1.here A.2.2.2.2.1 rfl (hb A.2.2.2.2.2.1 hd) rfl q
theorem f_lushr (A : WS p l e R s m args below meth c Z EL n0 own code ml bw vm T h locs cells slots) {x : Int64} {y : Int32} (hd : decode code pc = .ok (.lushr, 1)) (hp : pc + 1 = pc') (z : Int64) (hz : (x.toUInt64 >>> (y &&& 0x3f).toInt64.toUInt64).toInt64 = z) (k : Wp p e below P T (mkF m pc' L (.long z :: S))) : Wp p e below P T (mkF m pc L (.int y :: .long x :: S)) := by
  subst hp hz; exact k.go fun _ q => XS.lushr A.1.here A.2.2.2.2.1 rfl (hb A.2.2.2.2.2.1 hd) rfl q
theorem f_idiv (A : WS p l e R s m args below meth c Z EL n0 own code ml bw vm T h locs cells slots) {x y : Int32} (hd : decode code pc = .ok (.idiv, 1)) (hp : pc + 1 = pc') (hy : y ≠ 0) (z : Int32) (hz : x / y = z) (k : Wp p e below P T (mkF m pc' L (.int z :: S))) : Wp p e below P T (mkF m pc L (.int y :: .int x :: S)) := by
  subst hp hz; exact k.go fun _ q => XS.idiv A.1.here A.2.2.2.2.1 rfl (hb A.2.2.2.2.2.1 hd) rfl hy q
theorem f_ldiv (A : WS p l e R s m args below meth c Z EL n0 own code ml bw vm T h locs cells slots) {x y : Int64} (hd : decode code pc = .ok (.ldiv, 1)) (hp : pc + 1 = pc') (hy : y ≠ 0) (z : Int64) (hz : x / y = z) (k : Wp p e below P T (mkF m pc' L (.long z :: S))) : Wp p e below P T (mkF m pc L (.long y :: .long x :: S)) := by
  subst hp hz; exact k.go fun _ q => XS.ldiv A.1.here A.2.2.2.2.1 rfl (hb A.2.2.2.2.2.1 hd) rfl hy q
theorem f_irem (A : WS p l e R s m args below meth c Z EL n0 own code ml bw vm T h locs cells slots) {x y : Int32} (hd : decode code pc = .ok (.irem, 1)) (hp : pc + 1 = pc') (hy : y ≠ 0) (z : Int32) (hz : x % y = z) (k : Wp p e below P T (mkF m pc' L (.int z :: S))) : Wp p e below P T (mkF m pc L (.int y :: .int x :: S)) := by
  subst hp hz; exact k.go fun _ q => iremM A.1 A.2.2.2.2.1 rfl (hb A.2.2.2.2.2.1 hd) rfl hy q
theorem f_lrem (A : WS p l e R s m args below meth c Z EL n0 own code ml bw vm T h locs cells slots) {x y : Int64} (hd : decode code pc = .ok (.lrem, 1)) (hp : pc + 1 = pc') (hy : y ≠ 0) (z : Int64) (hz : x % y = z) (k : Wp p e below P T (mkF m pc' L (.long z :: S))) : Wp p e below P T (mkF m pc L (.long y :: .long x :: S)) := by
  subst hp hz; exact k.go fun _ q => XS.lrem A.1.here A.2.2.2.2.1 rfl (hb A.2.2.2.2.2.1 hd) rfl hy (by rw [lrem_mod]; exact q)
theorem f_ineg (A : WS p l e R s m args below meth c Z EL n0 own code ml bw vm T h locs cells slots) {x : Int32} (hd : decode code pc = .ok (.ineg, 1)) (hp : pc + 1 = pc') (z : Int32) (hz : -x = z) (k : Wp p e below P T (mkF m pc' L (.int z :: S))) : Wp p e below P T (mkF m pc L (.int x :: S)) := by
  subst hp hz; exact k.go fun _ q => XS.ineg A.1.here A.2.2.2.2.1 rfl (hb A.2.2.2.2.2.1 hd) rfl q
theorem f_lneg (A : WS p l e R s m args below meth c Z EL n0 own code ml bw vm T h locs cells slots) {x : Int64} (hd : decode code pc = .ok (.lneg, 1)) (hp : pc + 1 = pc') (z : Int64) (hz : -x = z) (k : Wp p e below P T (mkF m pc' L (.long z :: S))) : Wp p e below P T (mkF m pc L (.long x :: S)) := by
  subst hp hz; exact k.go fun _ q => XS.lneg A.1.here A.2.2.2.2.1 rfl (hb A.2.2.2.2.2.1 hd) rfl q
theorem f_i2l (A : WS p l e R s m args below meth c Z EL n0 own code ml bw vm T h locs cells slots) {x : Int32} (hd : decode code pc = .ok (.i2l, 1)) (hp : pc + 1 = pc') (z : Int64) (hz : x.toInt64 = z) (k : Wp p e below P T (mkF m pc' L (.long z :: S))) : Wp p e below P T (mkF m pc L (.int x :: S)) := by
  subst hp hz; exact k.go fun _ q => XS.i2l A.1.here A.2.2.2.2.1 rfl (hb A.2.2.2.2.2.1 hd) rfl q
theorem f_l2i (A : WS p l e R s m args below meth c Z EL n0 own code ml bw vm T h locs cells slots) {x : Int64} (hd : decode code pc = .ok (.l2i, 1)) (hp : pc + 1 = pc') (z : Int32) (hz : x.toInt32 = z) (k : Wp p e below P T (mkF m pc' L (.int z :: S))) : Wp p e below P T (mkF m pc L (.long x :: S)) := by
  subst hp hz; exact k.go fun _ q => XS.l2i A.1.here A.2.2.2.2.1 rfl (hb A.2.2.2.2.2.1 hd) rfl q
theorem f_i2b (A : WS p l e R s m args below meth c Z EL n0 own code ml bw vm T h locs cells slots) {x : Int32} (hd : decode code pc = .ok (.i2b, 1)) (hp : pc + 1 = pc') (z : Int32) (hz : x.toInt8.toInt32 = z) (k : Wp p e below P T (mkF m pc' L (.int z :: S))) : Wp p e below P T (mkF m pc L (.int x :: S)) := by
  subst hp hz; exact k.go fun _ q => XS.i2b A.1.here A.2.2.2.2.1 rfl (hb A.2.2.2.2.2.1 hd) rfl q
theorem f_i2c (A : WS p l e R s m args below meth c Z EL n0 own code ml bw vm T h locs cells slots) {x : Int32} (hd : decode code pc = .ok (.i2c, 1)) (hp : pc + 1 = pc') (z : Int32) (hz : x.toUInt32.toUInt16.toUInt32.toInt32 = z) (k : Wp p e below P T (mkF m pc' L (.int z :: S))) : Wp p e below P T (mkF m pc L (.int x :: S)) := by
  subst hp hz; exact k.go fun _ q => XS.i2c A.1.here A.2.2.2.2.1 rfl (hb A.2.2.2.2.2.1 hd) rfl q
theorem f_i2s (A : WS p l e R s m args below meth c Z EL n0 own code ml bw vm T h locs cells slots) {x : Int32} (hd : decode code pc = .ok (.i2s, 1)) (hp : pc + 1 = pc') (z : Int32) (hz : x.toInt16.toInt32 = z) (k : Wp p e below P T (mkF m pc' L (.int z :: S))) : Wp p e below P T (mkF m pc L (.int x :: S)) := by
  subst hp hz; exact k.go fun _ q => XS.i2s A.1.here A.2.2.2.2.1 rfl (hb A.2.2.2.2.2.1 hd) rfl q
theorem f_lcmp (A : WS p l e R s m args below meth c Z EL n0 own code ml bw vm T h locs cells slots) {x y : Int64} (hd : decode code pc = .ok (.lcmp, 1)) (hp : pc + 1 = pc') (z : Int32) (hz : lcmpW x y = z) (k : Wp p e below P T (mkF m pc' L (.int z :: S))) : Wp p e below P T (mkF m pc L (.long y :: .long x :: S)) := by
  subst hp hz; exact k.go fun _ q => XS.lcmp A.1.here A.2.2.2.2.1 rfl (hb A.2.2.2.2.2.1 hd) rfl q
theorem f_iinc (A : WS p l e R s m args below meth c Z EL n0 own code ml bw vm T h locs cells slots) {i : Nat} {d : Int} {x : Int32} {L' : Array Slot} (hd : decode code pc = .ok (.iinc i d, 3)) (hp : pc + 3 = pc') (hl : L[i]? = some (.val (.int x))) (z : Int32) (hz : x + Int32.ofInt d = z) (hs : storeLocals L i (.int z) = some L') (k : Wp p e below P T (mkF m pc' L' S)) : Wp p e below P T (mkF m pc L S) := by
  subst hp hz; exact k.go fun _ q => XS.iinc A.1.here A.2.2.2.2.1 rfl (hb A.2.2.2.2.2.1 hd) hl hs q
theorem f_dup (A : WS p l e R s m args below meth c Z EL n0 own code ml bw vm T h locs cells slots) {x : Value} (hd : decode code pc = .ok (.dup, 1)) (hp : pc + 1 = pc') (hc : x.category = 1) (k : Wp p e below P T (mkF m pc' L (x :: x :: S))) : Wp p e below P T (mkF m pc L (x :: S)) := by
  subst hp; exact k.go fun _ q => XS.dup A.1.here A.2.2.2.2.1 rfl (hb A.2.2.2.2.2.1 hd) rfl hc q
theorem f_pop (A : WS p l e R s m args below meth c Z EL n0 own code ml bw vm T h locs cells slots) {x : Value} (hd : decode code pc = .ok (.pop, 1)) (hp : pc + 1 = pc') (hc : x.category = 1) (k : Wp p e below P T (mkF m pc' L S)) : Wp p e below P T (mkF m pc L (x :: S)) := by
  subst hp; exact k.go fun _ q => XS.pop A.1.here A.2.2.2.2.1 rfl (hb A.2.2.2.2.2.1 hd) rfl hc q
theorem f_dup_x1 (A : WS p l e R s m args below meth c Z EL n0 own code ml bw vm T h locs cells slots) {x y : Value} (hd : decode code pc = .ok (.dup_x1, 1)) (hp : pc + 1 = pc') (hc : x.category = 1) (hc' : y.category = 1) (k : Wp p e below P T (mkF m pc' L (x :: y :: x :: S))) : Wp p e below P T (mkF m pc L (x :: y :: S)) := by
  subst hp; exact k.go fun _ q => XS.dupX1 A.1.here A.2.2.2.2.1 rfl (hb A.2.2.2.2.2.1 hd) rfl hc hc' q
theorem f_goto (A : WS p l e R s m args below meth c Z EL n0 own code ml bw vm T h locs cells slots) {o : Int} (hd : decode code pc = .ok (.goto o, 3)) (ho : 0 ≤ (pc : Int) + o) (hp : ((pc : Int) + o).toNat = pc') (k : Wp p e below P T (mkF m pc' L S)) : Wp p e below P T (mkF m pc L S) := by
  exact k.go fun _ q => XS.goto A.1.here A.2.2.2.2.1 rfl (pc0 := pc) rfl (hb A.2.2.2.2.2.1 hd) ho hp q
theorem f_ifY (A : WS p l e R s m args below meth c Z EL n0 own code ml bw vm T h locs cells slots) {cd : ClassFile.Cond} {o : Int} {x : Int32} (hd : decode code pc = .ok (.ifCond cd o, 3)) (hc : ifCond.holds cd x = true) (ho : 0 ≤ (pc : Int) + o) (hp : ((pc : Int) + o).toNat = pc') (k : Wp p e below P T (mkF m pc' L S)) : Wp p e below P T (mkF m pc L (.int x :: S)) := by
  exact k.go fun _ q => XS.ifYes A.1.here A.2.2.2.2.1 rfl (pc0 := pc) rfl (hb A.2.2.2.2.2.1 hd) rfl hc ho hp q
theorem f_ifN (A : WS p l e R s m args below meth c Z EL n0 own code ml bw vm T h locs cells slots) {cd : ClassFile.Cond} {o : Int} {x : Int32} (hd : decode code pc = .ok (.ifCond cd o, 3)) (hc : ifCond.holds cd x = false) (hp : pc + 3 = pc') (k : Wp p e below P T (mkF m pc' L S)) : Wp p e below P T (mkF m pc L (.int x :: S)) := by
  subst hp; exact k.go fun _ q => XS.ifNo A.1.here A.2.2.2.2.1 rfl (hb A.2.2.2.2.2.1 hd) rfl hc q
theorem f_icY (A : WS p l e R s m args below meth c Z EL n0 own code ml bw vm T h locs cells slots) {cd : ClassFile.Cond} {o : Int} {x y : Int32} (hd : decode code pc = .ok (.if_icmp cd o, 3)) (hc : if_icmp.holds cd x y = true) (ho : 0 ≤ (pc : Int) + o) (hp : ((pc : Int) + o).toNat = pc') (k : Wp p e below P T (mkF m pc' L S)) : Wp p e below P T (mkF m pc L (.int y :: .int x :: S)) := by
  exact k.go fun _ q => XS.icmpYes A.1.here A.2.2.2.2.1 rfl (pc0 := pc) rfl (hb A.2.2.2.2.2.1 hd) rfl hc ho hp q
theorem f_icN (A : WS p l e R s m args below meth c Z EL n0 own code ml bw vm T h locs cells slots) {cd : ClassFile.Cond} {o : Int} {x y : Int32} (hd : decode code pc = .ok (.if_icmp cd o, 3)) (hc : if_icmp.holds cd x y = false) (hp : pc + 3 = pc') (k : Wp p e below P T (mkF m pc' L S)) : Wp p e below P T (mkF m pc L (.int y :: .int x :: S)) := by
  subst hp; exact k.go fun _ q => XS.icmpNo A.1.here A.2.2.2.2.1 rfl (hb A.2.2.2.2.2.1 hd) rfl hc q
theorem f_nullY (A : WS p l e R s m args below meth c Z EL n0 own code ml bw vm T h locs cells slots) {o : Int} (hd : decode code pc = .ok (.ifnull o, 3)) (ho : 0 ≤ (pc : Int) + o) (hp : ((pc : Int) + o).toNat = pc') (k : Wp p e below P T (mkF m pc' L S)) : Wp p e below P T (mkF m pc L (.null :: S)) := by
  exact k.go fun _ q => XS.ifnullYes A.1.here A.2.2.2.2.1 rfl (pc0 := pc) rfl (hb A.2.2.2.2.2.1 hd) rfl ho hp q
theorem f_nullN (A : WS p l e R s m args below meth c Z EL n0 own code ml bw vm T h locs cells slots) {o : Int} {b : Addr} (hd : decode code pc = .ok (.ifnull o, 3)) (hp : pc + 3 = pc') (k : Wp p e below P T (mkF m pc' L S)) : Wp p e below P T (mkF m pc L (.ref b :: S)) := by
  subst hp; exact k.go fun _ q => XS.ifnullNo A.1.here A.2.2.2.2.1 rfl (hb A.2.2.2.2.2.1 hd) rfl q
theorem f_nonY (A : WS p l e R s m args below meth c Z EL n0 own code ml bw vm T h locs cells slots) {o : Int} {b : Addr} (hd : decode code pc = .ok (.ifnonnull o, 3)) (ho : 0 ≤ (pc : Int) + o) (hp : ((pc : Int) + o).toNat = pc') (k : Wp p e below P T (mkF m pc' L S)) : Wp p e below P T (mkF m pc L (.ref b :: S)) := by
  exact k.go fun _ q => XS.ifnonnullYes A.1.here A.2.2.2.2.1 rfl (pc0 := pc) rfl (hb A.2.2.2.2.2.1 hd) rfl ho hp q
theorem f_nonN (A : WS p l e R s m args below meth c Z EL n0 own code ml bw vm T h locs cells slots) {o : Int} (hd : decode code pc = .ok (.ifnonnull o, 3)) (hp : pc + 3 = pc') (k : Wp p e below P T (mkF m pc' L S)) : Wp p e below P T (mkF m pc L (.null :: S)) := by
  subst hp; exact k.go fun _ q => XS.ifnonnullNo A.1.here A.2.2.2.2.1 rfl (hb A.2.2.2.2.2.1 hd) rfl q
theorem f_acmp (A : WS p l e R s m args below meth c Z EL n0 own code ml bw vm T h locs cells slots) {cd : ACond} {o : Int} {x y : Value} (h1 : x.isRef = true) (h2 : y.isRef = true) (hd : decode code pc = .ok (.if_acmp cd o, 3)) (same : Bool) (hq : decide (x = y) = same) (ho : 0 ≤ (pc : Int) + o) (hp : pc' = if acV cd same = true then ((pc : Int) + o).toNat else pc + 3) (k : Wp p e below P T (mkF m pc' L S)) : Wp p e below P T (mkF m pc L (y :: x :: S)) := by
  exact k.go fun _ q => Jvm.RoadKit.acmp A.1 A.2.2.2.2.1 rfl h1 h2 (pc0 := pc) rfl (hb A.2.2.2.2.2.1 hd) rfl hq ho hp q
theorem f_new (A : WS p l e R s m args below meth c Z EL n0 own code ml bw vm T h locs cells slots) {C : String} {i n : Nat} (hd : decode code pc = .ok (.new i, 3)) (hp : pc + 3 = pc') (w : (Cond.classLink own i C).before a0 Z = true) (wi : (Cond.instantiable C n).before a0 Z = true) (wz : (Cond.initialized C).before a0 Z = true) (hc : cells + 1 ≤ R.cells) (hl : slots + n ≤ R.slots)
    (k : ∀ (a : Addr) (T' : State) (h' : Heap), a = h.size → WS p l e R s m args below meth c Z EL n0 own code ml bw vm T' h' locs (cells + 1) (slots + n) → Ext h h' → Exa Z h' a C → (∀ {O nm d : String} {ty : FieldType}, Laid Z a0 C O nm d → parseFieldDescriptor d = some ty → Fld Z h' a O nm d (defaultValue ty)) → Wp p e below P T' (mkF m pc' L (.ref a :: S))) : Wp p e below P T (mkF m pc L S) := by
  subst hp
  obtain ⟨T', h', X', q, E, F, D, -, st⟩ := newO A.1 A.2.2.2.2.1 A.hZ A.2.2.2.1 w wi wz A.2.1 (g := mkF m pc L S) rfl (hb A.2.2.2.2.2.1 hd) hc hl
  exact (k _ T' h' rfl (A.grow X' q E) E F D).go st
theorem f_newP (A : WS p l e R s m args below meth c Z EL n0 own code ml bw vm T h locs cells slots) {aty : ArrayType} {z : Int32} (cap : Nat) (hd : decode code pc = .ok (.newarray aty, 2)) (hp : pc + 2 = pc') (w : (Cond.arrayClass (newarray.typeOf aty)).before a0 Z = true) (hn : ¬ z < 0) (hcap : z.toNatClampNeg ≤ cap) (hb8 : cap * 8 ≤ 536870912) (hc : cells + 1 ≤ R.cells) (hl : slots + cap ≤ R.slots) {ad : String} (had : "[" ++ (newarray.typeOf aty).toString = ad)
    (k : ∀ (a : Addr) (T' : State) (h' : Heap) (kA : ClassId), a = h.size → WS p l e R s m args below meth c Z EL n0 own code ml bw vm T' h' locs (cells + 1) (slots + cap) → Ext h h' → Arv Z h' a kA (newarray.typeOf aty) z [] (defaultValue (newarray.typeOf aty)) → Exa Z h' a ad → Wp p e below P T' (mkF m pc' L (.ref a :: S))) : Wp p e below P T (mkF m pc L (.int z :: S)) := by
  subst hp
  obtain ⟨T', h', kA, X', q, E, F, G, st⟩ := newPE A.1 A.2.2.2.2.1 A.hZ w A.2.1 (g := mkF m pc L (.int z :: S)) rfl (hb A.2.2.2.2.2.1 hd) rfl hn hcap hb8 hc hl had
  exact (k _ T' h' kA rfl (A.grow X' q E) E (Arv.new F hn) G).go st
theorem f_getF (A : WS p l e R s m args below meth c Z EL n0 own code ml bw vm T h locs cells slots) {R0 O n d host : String} {i : Nat} {a : Addr} {v : Value} (hd : decode code pc = .ok (.getfield i, 3)) (hp : pc + 3 = pc') (w : (Cond.fieldLink own i R0 n d).before a0 Z = true ∨ (Cond.fieldLinkNest own i R0 n d host).before a0 Z = true) (via : Via Z R0 O n d) (F : Fld Z h a O n d v)
    (k : ∀ (T' : State), WS p l e R s m args below meth c Z EL n0 own code ml bw vm T' h locs cells slots → Wp p e below P T' (mkF m pc' L (v :: S))) : Wp p e below P T (mkF m pc L (.ref a :: S)) := by
  subst hp
  obtain ⟨T', X', q, st⟩ := getF A.1 A.2.2.2.2.1 A.hZ A.2.2.2.1 w via A.2.1 F (g := mkF m pc L (.ref a :: S)) rfl rfl (hb A.2.2.2.2.2.1 hd)
  exact (k T' (A.still X' q)).go st
theorem f_getS (A : WS p l e R s m args below meth c Z EL n0 own code ml bw vm T h locs cells slots) {R0 O n d host : String} {i : Nat} {v : Value} (hd : decode code pc = .ok (.getstatic i, 3)) (hp : pc + 3 = pc') (w : (Cond.fieldLink own i R0 n d).before a0 Z = true ∨ (Cond.fieldLinkNest own i R0 n d host).before a0 Z = true) (via : Via Z R0 O n d) (F : Sta Z Z.heap O n d v)
    (k : ∀ (T' : State), WS p l e R s m args below meth c Z EL n0 own code ml bw vm T' h locs cells slots → Wp p e below P T' (mkF m pc' L (v :: S))) : Wp p e below P T (mkF m pc L S) := by
  subst hp
  obtain ⟨T', X', q, st⟩ := getS2 A.1 A.2.2.2.2.1 A.hZ A.2.2.2.1 w via A.2.1 (F.ext A.old.2) (g := mkF m pc L S) rfl (hb A.2.2.2.2.2.1 hd)
  exact (k T' (A.still X' q)).go st
theorem f_putF (A : WS p l e R s m args below meth c Z EL n0 own code ml bw vm T h locs cells slots) {R0 O n d C : String} {i kk : Nat} {ty : FieldType} {a : Addr} {v old : Value} (v' : Value) (hd : decode code pc = .ok (.putfield i, 3)) (hp : pc + 3 = pc') (w : (Cond.fieldLink own i R0 n d).before a0 Z = true) (via : Via Z R0 O n d) (F : Fld Z h a O n d old) (E : Exa Z h a C)
    (wl : (Cond.lays C O n d).before a0 Z = true ∨ ((Cond.laysFinal C O n d).before a0 Z = true ∧ own = O ∧ meth.name = "<init>")) (wi : (Cond.instantiable C kk).before a0 Z = true) (hty : parseFieldDescriptor d = some ty) (hn : narrow ty v = v') (hf : fits ty v' = true) (ga : n0 ≤ a) (sf : bw = true → Safe Z EL vm h a)
    (k : ∀ (T' : State) (h' : Heap), WS p l e R s m args below meth c Z EL n0 own code ml bw vm T' h' (locs ++ [⟨a, Jvm.RoadKit.slotOf Z O n d⟩]) cells slots → Wr h h' a (Jvm.RoadKit.slotOf Z O n d) v' → Keep h h' [a] → Exa Z h' a C → Fld Z h' a O n d v' → Wp p e below P T' (mkF m pc' L S)) : Wp p e below P T (mkF m pc L (v :: .ref a :: S)) := by
  subst hp
  obtain ⟨T', h', X', q, W, st⟩ := putFN A.1 A.2.2.2.2.1 A.hZ A.2.2.2.1 w via A.2.1 F E wl wi hty hn hf (g := mkF m pc L (v :: .ref a :: S)) rfl rfl (hb A.2.2.2.2.2.1 hd)
  exact (k T' h' (A.kept X' q (Fr.snoc X' A.2.2.2.2.2.2.2.1 ga) (Keep.of_wr W) (allS ga all0) (fun b => sfS (sf b) sf0)) W (Keep.of_wr W) (E.wr W) (F.same W)).go st
theorem f_castore (A : WS p l e R s m args below meth c Z EL n0 own code ml bw vm T h locs cells slots) {a : Addr} {kA : ClassId} {z j x : Int32} {vs vs' : List Value} {dv : Value} (hd : decode code pc = .ok (.castore, 1)) (hp : pc + 1 = pc') (F : Arv Z h a kA .char z vs dv) (hj : ¬ j < 0 ∧ j < z) (i : Nat) (hi : j.toNatClampNeg = i) (hl : i < vs.length) (v : Int32) (hv : nar .char x = v) (hs : vs.set i (.int v) = vs') (ga : n0 ≤ a) (sf : bw = true → Safe Z EL vm h a)
    (k : ∀ (T' : State) (h' : Heap), WS p l e R s m args below meth c Z EL n0 own code ml bw vm T' h' (locs ++ [⟨a, j.toNatClampNeg⟩]) cells slots → Keep h h' [a] → Arv Z h' a kA .char z vs' dv → Wp p e below P T' (mkF m pc' L S)) : Wp p e below P T (mkF m pc L (.int x :: .int j :: .ref a :: S)) := by
  subst hp hs hv
  obtain ⟨cl, Ar, q1, Sz, q3, H, G⟩ := F
  obtain ⟨T', h', X', q, W, st⟩ := stC A.1 A.2.2.2.2.1 A.hZ A.2.1 Ar (j := j) (inb_of Sz hj) (g := mkF m pc L (.int x :: .int j :: .ref a :: S)) rfl rfl (hb A.2.2.2.2.2.1 hd)
  exact (k T' h' (A.kept X' q (Fr.snoc X' A.2.2.2.2.2.2.2.1 ga) (Keep.of_wr W) (allS ga all0) (fun b => sfS (sf b) sf0)) (Keep.of_wr W) (Arv.set Ar q1 Sz q3 H G (fits_nar_char x) W i hi hl)).go st
theorem f_bastore (A : WS p l e R s m args below meth c Z EL n0 own code ml bw vm T h locs cells slots) {a : Addr} {kA : ClassId} {z j x : Int32} {vs vs' : List Value} {dv : Value} (hd : decode code pc = .ok (.bastore, 1)) (hp : pc + 1 = pc') (F : Arv Z h a kA .byte z vs dv) (hj : ¬ j < 0 ∧ j < z) (i : Nat) (hi : j.toNatClampNeg = i) (hl : i < vs.length) (v : Int32) (hv : x.toInt8.toInt32 = v) (hs : vs.set i (.int v) = vs') (ga : n0 ≤ a) (sf : bw = true → Safe Z EL vm h a)
    (k : ∀ (T' : State) (h' : Heap), WS p l e R s m args below meth c Z EL n0 own code ml bw vm T' h' (locs ++ [⟨a, j.toNatClampNeg⟩]) cells slots → Keep h h' [a] → Arv Z h' a kA .byte z vs' dv → Wp p e below P T' (mkF m pc' L S)) : Wp p e below P T (mkF m pc L (.int x :: .int j :: .ref a :: S)) := by
  subst hp hs hv
  obtain ⟨cl, Ar, q1, Sz, q3, H, G⟩ := F
  obtain ⟨T', h', X', q, W, st⟩ := stB A.1 A.2.2.2.2.1 A.hZ A.2.1 Ar (j := j) (inb_of Sz hj) (g := mkF m pc L (.int x :: .int j :: .ref a :: S)) rfl rfl (hb A.2.2.2.2.2.1 hd)
  exact (k T' h' (A.kept X' q (Fr.snoc X' A.2.2.2.2.2.2.2.1 ga) (Keep.of_wr W) (allS ga all0) (fun b => sfS (sf b) sf0)) (Keep.of_wr W) (Arv.set Ar q1 Sz q3 H G (fits_nar_byte x) W i hi hl)).go st
theorem f_iastore (A : WS p l e R s m args below meth c Z EL n0 own code ml bw vm T h locs cells slots) {a : Addr} {kA : ClassId} {z j x : Int32} {vs vs' : List Value} {dv : Value} (hd : decode code pc = .ok (.iastore, 1)) (hp : pc + 1 = pc') (F : Arv Z h a kA .int z vs dv) (hj : ¬ j < 0 ∧ j < z) (i : Nat) (hi : j.toNatClampNeg = i) (hl : i < vs.length) (v : Int32) (hv : x = v) (hs : vs.set i (.int v) = vs') (ga : n0 ≤ a) (sf : bw = true → Safe Z EL vm h a)
    (k : ∀ (T' : State) (h' : Heap), WS p l e R s m args below meth c Z EL n0 own code ml bw vm T' h' (locs ++ [⟨a, j.toNatClampNeg⟩]) cells slots → Keep h h' [a] → Arv Z h' a kA .int z vs' dv → Wp p e below P T' (mkF m pc' L S)) : Wp p e below P T (mkF m pc L (.int x :: .int j :: .ref a :: S)) := by
  subst hp hs hv
  obtain ⟨cl, Ar, q1, Sz, q3, H, G⟩ := F
  obtain ⟨T', h', X', q, W, st⟩ := stI A.1 A.2.2.2.2.1 A.hZ A.2.1 Ar (j := j) (inb_of Sz hj) (g := mkF m pc L (.int x :: .int j :: .ref a :: S)) rfl rfl (hb A.2.2.2.2.2.1 hd)
  exact (k T' h' (A.kept X' q (Fr.snoc X' A.2.2.2.2.2.2.2.1 ga) (Keep.of_wr W) (allS ga all0) (fun b => sfS (sf b) sf0)) (Keep.of_wr W) (Arv.set Ar q1 Sz q3 H G rfl W i hi hl)).go st
theorem f_caload (A : WS p l e R s m args below meth c Z EL n0 own code ml bw vm T h locs cells slots) {a : Addr} {kA : ClassId} {z j : Int32} {vs : List Value} {dv v : Value} (hd : decode code pc = .ok (.caload, 1)) (hp : pc + 1 = pc') (F : Arv Z h a kA .char z vs dv) (hj : ¬ j < 0 ∧ j < z) (hv : vs.getD j.toNatClampNeg dv = v) (k : Wp p e below P T (mkF m pc' L (v :: S))) : Wp p e below P T (mkF m pc L (.int j :: .ref a :: S)) := by
  subst hp
  obtain ⟨cl, Ar, q1, Sz, q3, H, G⟩ := F
  exact k.go fun t q => A.1.caload A.2.2.2.2.1 (j := j) (v := v) (by rw [A.2.1]; exact Ar.1) (State.isArrayOf_alike A.hZ.alike Ar.2.1) Ar.2.2 (inb_of Sz hj) (H.at (inb_of Sz hj) hv) (g := mkF m pc L (.int j :: .ref a :: S)) rfl rfl (hb A.2.2.2.2.2.1 hd) t q
theorem f_baload (A : WS p l e R s m args below meth c Z EL n0 own code ml bw vm T h locs cells slots) {a : Addr} {kA : ClassId} {z j : Int32} {vs : List Value} {dv v : Value} (hd : decode code pc = .ok (.baload, 1)) (hp : pc + 1 = pc') (F : Arv Z h a kA .byte z vs dv) (hj : ¬ j < 0 ∧ j < z) (hv : vs.getD j.toNatClampNeg dv = v) (k : Wp p e below P T (mkF m pc' L (v :: S))) : Wp p e below P T (mkF m pc L (.int j :: .ref a :: S)) := by
  subst hp
  obtain ⟨cl, Ar, q1, Sz, q3, H, G⟩ := F
  exact k.go fun t q => A.1.baloadBytes A.2.2.2.2.1 (j := j) (v := v) (by rw [A.2.1]; exact Ar.1) (State.isArrayOf_alike A.hZ.alike Ar.2.1) Ar.2.2 (inb_of Sz hj) (H.at (inb_of Sz hj) hv) (g := mkF m pc L (.int j :: .ref a :: S)) rfl rfl (hb A.2.2.2.2.2.1 hd) t q
theorem f_iaload (A : WS p l e R s m args below meth c Z EL n0 own code ml bw vm T h locs cells slots) {a : Addr} {kA : ClassId} {z j : Int32} {vs : List Value} {dv v : Value} (hd : decode code pc = .ok (.iaload, 1)) (hp : pc + 1 = pc') (F : Arv Z h a kA .int z vs dv) (hj : ¬ j < 0 ∧ j < z) (hv : vs.getD j.toNatClampNeg dv = v) (k : Wp p e below P T (mkF m pc' L (v :: S))) : Wp p e below P T (mkF m pc L (.int j :: .ref a :: S)) := by
  subst hp
  obtain ⟨cl, Ar, q1, Sz, q3, H, G⟩ := F
  exact k.go fun t q => A.1.iaload A.2.2.2.2.1 (j := j) (v := v) (by rw [A.2.1]; exact Ar.1) (State.isArrayOf_alike A.hZ.alike Ar.2.1) Ar.2.2 (inb_of Sz hj) (H.at (inb_of Sz hj) hv) (g := mkF m pc L (.int j :: .ref a :: S)) rfl rfl (hb A.2.2.2.2.2.1 hd) t q
theorem f_aaload (A : WS p l e R s m args below meth c Z EL n0 own code ml bw vm T h locs cells slots) {a : Addr} {kA : ClassId} {z j : Int32} {vs : List Value} {dv v : Value} {ty : FieldType} (hd : decode code pc = .ok (.aaload, 1)) (hp : pc + 1 = pc') (F : Arv Z h a kA ty z vs dv) (ht : ty.isReference = true) (hj : ¬ j < 0 ∧ j < z) (hv : vs.getD j.toNatClampNeg dv = v) (k : Wp p e below P T (mkF m pc' L (v :: S))) : Wp p e below P T (mkF m pc L (.int j :: .ref a :: S)) := by
  subst hp
  obtain ⟨cl, Ar, q1, Sz, q3, H, G⟩ := F
  exact k.go fun t q => A.1.aaload A.2.2.2.2.1 (j := j) (v := v) (by rw [A.2.1]; exact Ar.1) (State.isArrayOf_alike A.hZ.alike Ar.2.1) ht Ar.2.2 (inb_of Sz hj) (H.at (inb_of Sz hj) hv) (g := mkF m pc L (.int j :: .ref a :: S)) rfl rfl (hb A.2.2.2.2.2.1 hd) t q
theorem f_arraylength (A : WS p l e R s m args below meth c Z EL n0 own code ml bw vm T h locs cells slots) {a : Addr} {kA : ClassId} {z : Int32} {vs : List Value} {dv : Value} {ty : FieldType} (hd : decode code pc = .ok (.arraylength, 1)) (hp : pc + 1 = pc') (F : Arv Z h a kA ty z vs dv) (k : Wp p e below P T (mkF m pc' L (.int z :: S))) : Wp p e below P T (mkF m pc L (.ref a :: S)) := by
  subst hp
  obtain ⟨cl, Ar, q1, Sz, q3, -, -⟩ := F
  exact k.go fun t q => A.1.arraylength A.2.2.2.2.1 (by rw [A.2.1]; exact Ar.1) (State.isArrayOf_alike A.hZ.alike Ar.2.1) (g := mkF m pc L (.ref a :: S)) rfl rfl (hb A.2.2.2.2.2.1 hd) t (by rw [len_of Sz q3]; exact q)
theorem f_cast (A : WS p l e R s m args below meth c Z EL n0 own code ml bw vm T h locs cells slots) {K : String} {i : Nat} {a : Addr} (hd : decode code pc = .ok (.checkcast i, 3)) (hp : pc + 3 = pc') (w : (Cond.classLink own i K).before a0 Z = true) (F : Ins Z h a K true) (k : ∀ (T' : State), WS p l e R s m args below meth c Z EL n0 own code ml bw vm T' h locs cells slots → Wp p e below P T' (mkF m pc' L (.ref a :: S))) : Wp p e below P T (mkF m pc L (.ref a :: S)) := by
  subst hp
  obtain ⟨T', X', q, st⟩ := castY A.1 A.2.2.2.2.1 A.hZ A.2.2.2.1 w A.2.1 F (g := mkF m pc L (.ref a :: S)) rfl rfl (hb A.2.2.2.2.2.1 hd)
  exact (k T' (A.still X' q)).go st
theorem f_instY (A : WS p l e R s m args below meth c Z EL n0 own code ml bw vm T h locs cells slots) {K : String} {i : Nat} {a : Addr} (hd : decode code pc = .ok (.instanceof i, 3)) (hp : pc + 3 = pc') (w : (Cond.classLink own i K).before a0 Z = true) (F : Ins Z h a K true) (k : ∀ (T' : State), WS p l e R s m args below meth c Z EL n0 own code ml bw vm T' h locs cells slots → Wp p e below P T' (mkF m pc' L (.int 1 :: S))) : Wp p e below P T (mkF m pc L (.ref a :: S)) := by
  subst hp
  obtain ⟨T', X', q, st⟩ := instY A.1 A.2.2.2.2.1 A.hZ A.2.2.2.1 w A.2.1 F (g := mkF m pc L (.ref a :: S)) rfl rfl (hb A.2.2.2.2.2.1 hd)
  exact (k T' (A.still X' q)).go st
theorem f_initO (A : WS p l e R s m args below meth c Z EL n0 own code ml bw vm T h locs cells slots) {i W : Nat} {a : Addr} (hd : decode code pc = .ok (.invokespecial i, 3)) (hp : pc + 3 = pc') (w1 : (Cond.methodLink own i Lib.objectInit).before a0 Z = true) (w2 : (Cond.instanceMethod Lib.objectInit).before a0 Z = true) (w3 : (Cond.code Lib.objectInit ⟨#[0xb1]⟩ 1 none).before a0 Z = true) (hml : L.size = ml) (hf : 1 ≤ R.frames) (hW : (S.map fun v => v.category).sum ≤ W) (hl : W + 12 ≤ R.locals)
    (k : ∀ (T' : State), WS p l e R s m args below meth c Z EL n0 own code ml bw vm T' h locs cells slots → Wp p e below P T' (mkF m pc' L S)) : Wp p e below P T (mkF m pc L (.ref a :: S)) := by
  subst hp
  obtain ⟨T', X', q, st⟩ := initO A.1 A.2.2.2.2.1 A.hZ A.2.2.2.1 w1 w2 w3 A.2.1 (g := mkF m pc L (.ref a :: S)) rfl (hml.trans A.2.2.2.2.2.2.1.symm) rfl (hb A.2.2.2.2.2.1 hd) hf (W := W) (by show 2 * 0 + _ ≤ _; omega) hl
  exact (k T' (A.still X' q)).go st
theorem WS.wide (A : WS p l e R s m args below meth c Z EL n0 own code ml true vm T h locs cells slots) : (∃ k, s.Since vm k ∧ k ≤ h.size) ∧ CHr Z EL s.vm s.heap vm h := by
  obtain ⟨-, -, -, -, -, -, -, -, -, b⟩ := A
  rcases b with ⟨b, -⟩ | ⟨-, b⟩
  · cases b
  · exact b
theorem f_ldcO (A : WS p l e R s m args below meth c Z EL n0 own code ml true vm T h locs cells slots) {i : Nat} {text : String} (hd : decode code pc = .ok (.ldc i, 2)) (hp : pc + 2 = pc') (w : (Cond.stringLink own i text).before a0 Z = true) (wS : ∀ a ∈ Bundle.stringAtoms, a.before a0 Z = true) (hEL : EW Z a0 EL) {n : Nat} (hn : 4 * text.toList.length ≤ n) (hbig : n ≤ 536870912) (hc : cells + 2 ≤ R.cells) (hl' : slots + (n + 4) ≤ R.slots)
    (k : ∀ (a : Addr) (vm' : Vm) (T' : State) (h' : Heap), WS p l e R s m args below meth c Z EL n0 own code ml true vm' T' h' locs (cells + 2) (slots + (n + 4)) → Ext h h' → CHr Z EL vm h vm' h' → Lit (s.setVm vm') own i a → Wp p e below P T' (mkF m pc' L (.ref a :: S))) : Wp p e below P T (mkF m pc L S) := by
  subst hp
  obtain ⟨⟨k0, hS, hk⟩, hC⟩ := A.wide
  obtain ⟨a, T', h', k1, X', q, E, hS', hk', hZ', ho', hC', hL, st⟩ := ldcOH A.1 A.2.2.2.2.1 A.hZ A.2.2.2.1 w wS A.2.1 hS hk hEL hC.1 (g := mkF m pc L S) rfl (hb A.2.2.2.2.2.1 hd) hn hbig hc hl'
  exact (k a T'.vm T' h' ⟨X', q, hZ', ho', A.2.2.2.2.1, A.2.2.2.2.2.1, A.2.2.2.2.2.2.1, A.2.2.2.2.2.2.2.1, A.old.ext E, Or.inr ⟨rfl, ⟨k1, hS', hk'⟩, hC.trans hC'⟩⟩ E hC' hL).go st
theorem f_ldcC (A : WS p l e R s m args below meth c Z EL n0 own code ml true vm T h locs cells slots) {i : Nat} {text : String} {vs : List Value} {z : Int32} (hd : decode code pc = .ok (.ldc i, 2)) (hp : pc + 2 = pc') (hmem : (own, i) ∈ EL) (ht : (∀ c ∈ text.toList, c.toNat < 256) ∧ text.toList.map (fun c => Value.int (Jvm.Lit.byteI c.toNat.toUInt16)) = vs) (hz : ¬ z < 0) (hl : z.toNatClampNeg = vs.length) (w : (Cond.stringLink own i text).before a0 Z = true) (wS : ∀ a ∈ Bundle.stringAtoms, a.before a0 Z = true) (hEL : EW Z a0 EL) {n : Nat} (hn : 4 * text.toList.length ≤ n) (hbig : n ≤ 536870912) (hc : cells + 2 ≤ R.cells) (hl' : slots + (n + 4) ≤ R.slots)
    (k : ∀ (a b : Addr) (kb : ClassId) (vm' : Vm) (T' : State) (h' : Heap), WS p l e R s m args below meth c Z EL n0 own code ml true vm' T' h' locs (cells + 2) (slots + (n + 4)) → Ext h h' → CHr Z EL vm h vm' h' → Lit (s.setVm vm') own i a → Exa Z h' a "java/lang/String" → Fld Z h' a "java/lang/String" "coder" "B" (.int 0) → Fld Z h' a "java/lang/String" "value" "[B" (.ref b) → Arv Z h' b kb .byte z vs (.int 0) → (∀ x, Safe Z EL vm' h' x → x ≠ a ∧ x ≠ b) → Wp p e below P T' (mkF m pc' L (.ref a :: S))) : Wp p e below P T (mkF m pc L S) := by
  subst hp
  obtain ⟨⟨k0, hS, hk⟩, hC⟩ := A.wide
  obtain ⟨a, T', h', k1, b, kb, X', q, E, hS', hk', hZ', ho', g1, g2, g3, g4, -, -, hC', hL, hsf, st⟩ := ldcCH A.1 A.2.2.2.2.1 A.hZ A.2.2.2.1 w wS A.2.1 hS hk hEL hmem hC.1 ht hz hl (g := mkF m pc L S) rfl (hb A.2.2.2.2.2.1 hd) hn hbig hc hl'
  exact (k a b kb T'.vm T' h' ⟨X', q, hZ', ho', A.2.2.2.2.1, A.2.2.2.2.2.1, A.2.2.2.2.2.2.1, A.2.2.2.2.2.2.2.1, A.old.ext E, Or.inr ⟨rfl, ⟨k1, hS', hk'⟩, hC.trans hC'⟩⟩ E hC' hL g1 g2 g3 g4 hsf).go st
theorem f_ldcA (A : WS p l e R s m args below meth c Z EL n0 own code ml true vm T h locs cells slots) {i : Nat} {text : String} {a : Addr} (hd : decode code pc = .ok (.ldc i, 2)) (hp : pc + 2 = pc') (w : (Cond.stringLink own i text).before a0 Z = true) (hL : Lit (s.setVm vm) own i a) (k : Wp p e below P T (mkF m pc' L (.ref a :: S))) : Wp p e below P T (mkF m pc L S) := by
  subst hp
  exact k.go fun t q => ldcAgain A.1 A.2.2.2.2.1 A.hZ A.2.2.2.1 w hL (g := mkF m pc L S) rfl (hb A.2.2.2.2.2.1 hd) t q
/-- what a body that interns nothing promises -/
abbrev CN (l : Launch) (y : MethodName) (bytes : ByteArray) (maxL : Nat) (ret : Option FieldType) (ws : List Jvm.Cond) (rm : Room) (Z : State) (n0 : Nat) (h : Heap) (as' : Array Value) (wr : List Addr) (Q : Option Value → Heap → Prop) : Prop :=
  MetFree l y (head1 (Jvm.Cond.code y bytes maxL ret :: ws) rm) (fun a U => a = as' ∧ Z.Warmed39 U.vm ∧ U.heap = h) (fun _ _ _ _ _ => True) (fun _ U o U' => ∃ v L, o = .returned v ∧ (Fr n0 L ∧ Keep h U'.heap wr ∧ Q v U'.heap) ∧ FrameEnd U o U' L rm.cells rm.slots)
/-- what a body that may intern promises; SL: what it writes of the booked kinds -/
abbrev CW (l : Launch) (y : MethodName) (bytes : ByteArray) (maxL : Nat) (ret : Option FieldType) (ws : List Jvm.Cond) (rm : Room) (Z : State) (EL : List (String × Nat)) (SL : List Addr) (n0 : Nat) (h : Heap) (as' : Array Value) (wr : List Addr) (Q : Option Value → Heap → Prop) : Prop :=
  MetFree l y (head1 (Jvm.Cond.code y bytes maxL ret :: ws) rm) (fun a U => a = as' ∧ Z.Warmed39 U.vm ∧ U.heap = h ∧ CHv Z EL U.vm h ∧ ∀ x ∈ SL, Safe Z EL U.vm h x) (fun _ _ _ _ _ => True) (fun _ U o U' => ∃ v L, o = .returned v ∧ (Fr n0 L ∧ Keep h U'.heap wr ∧ Q v U'.heap) ∧ CHr Z EL U.vm U.heap U'.vm U'.heap ∧ ReturnedEndW U o U' L rm.cells rm.slots)
abbrev PN (s : State) (n0 : Nat) (h : Heap) (wr : List Addr) (Q : Option Value → Heap → Prop) (kc ks : Nat) : Outcome → State → Prop := fun o t => ∃ v L, o = .returned v ∧ (Fr n0 L ∧ Keep h t.heap wr ∧ Q v t.heap) ∧ FrameEnd s o t L kc ks
abbrev PW (s Z : State) (EL : List (String × Nat)) (n0 : Nat) (h : Heap) (wr : List Addr) (Q : Option Value → Heap → Prop) (kc ks : Nat) : Outcome → State → Prop := fun o t => ∃ v L, o = .returned v ∧ (Fr n0 L ∧ Keep h t.heap wr ∧ Q v t.heap) ∧ CHr Z EL s.vm s.heap t.vm t.heap ∧ ReturnedEndW s o t L kc ks
/-- the walk of a body that interns nothing -/
theorem CN.walk {y : MethodName} {bytes : ByteArray} {maxL : Nat} {ret : Option FieldType} {ws : List Jvm.Cond} {rm : Room} {h0 : Heap} {as' : Array Value} {wr : List Addr} {Q : Option Value → Heap → Prop} {L0 : Array Slot} (hpl : plainFor y = true) (ho : Old Z n0 h0) (hef : ∀ m, entryFrame m as' maxL = mkF m 0 L0 [])
    (k : ∀ p e s m below meth c T, meth.locks = false → meth.sig.returnType = ret → meth.name = y.name → WS p l e rm s m as' below meth c Z [] n0 y.cls bytes maxL false s.vm T h0 [] 0 0 → Wp p e below (PN s n0 h0 wr Q rm.cells rm.slots) T (mkF m 0 L0 [])) : CN l y bytes maxL ret ws rm Z n0 h0 as' wr Q := by
  refine MetFree.of_bodySF hpl hisR ?_
  intro p e s m args below meth c s₁ Bd hml0 hP hK
  obtain ⟨rfl, hZ, hh⟩ := hP
  have X0 : Stand p l e rm s m args below meth c s₁ [] 0 0 := Stand.of_body Bd
  obtain ⟨s₂, o, a1, a2⟩ := k p e s m below meth c s₁ (BodyLoose.notSynchronized Bd) Bd.returns (name_of_methodNamed Bd.named Bd.method).1 ⟨X0, by rw [← hh, Bd.state]; rfl, hZ, findClass_of_methodNamed Bd.named, Bd.exec, Bd.bytes, hml0, Fr.nil n0, ho, Or.inl ⟨rfl, rfl⟩⟩
  exact ⟨s₂, o, castTop (hef m) a1, a2⟩
/-- the walk of a body that may intern -/
theorem CW.walk {y : MethodName} {bytes : ByteArray} {maxL : Nat} {ret : Option FieldType} {ws : List Jvm.Cond} {rm : Room} {h0 : Heap} {as' : Array Value} {wr SL : List Addr} {Q : Option Value → Heap → Prop} {L0 : Array Slot} (hpl : plainFor y = true) (ho : Old Z n0 h0) (hef : ∀ m, entryFrame m as' maxL = mkF m 0 L0 [])
    (k : ∀ p e s m below meth c T, meth.locks = false → meth.sig.returnType = ret → meth.name = y.name → (∀ x ∈ SL, Safe Z EL s.vm h0 x) → WS p l e rm s m as' below meth c Z EL n0 y.cls bytes maxL true s.vm T h0 [] 0 0 → Wp p e below (PW s Z EL n0 h0 wr Q rm.cells rm.slots) T (mkF m 0 L0 [])) : CW l y bytes maxL ret ws rm Z EL SL n0 h0 as' wr Q := by
  refine MetFree.of_bodySF hpl hisR ?_
  intro p e s m args below meth c s₁ Bd hml0 hP hK
  obtain ⟨rfl, hZ, hh, hC, hSL⟩ := hP
  have X0 : Stand p l e rm s m args below meth c s₁ [] 0 0 := Stand.of_body Bd
  subst hh
  obtain ⟨s₂, o, a1, a2⟩ := k p e s m below meth c s₁ (BodyLoose.notSynchronized Bd) Bd.returns (name_of_methodNamed Bd.named Bd.method).1 hSL ⟨X0, by rw [Bd.state]; rfl, hZ, findClass_of_methodNamed Bd.named, Bd.exec, Bd.bytes, hml0, Fr.nil n0, ho, Or.inr ⟨rfl, ⟨_, (State.WarmedH.refl s).since s.heap.size, Nat.le_refl _⟩, CHr.refl hC⟩⟩
  exact ⟨s₂, o, castTop (hef m) a1, a2⟩
theorem f_retN (A : WS p l e R s m args below meth c Z EL n0 own code ml false vm T h locs cells slots) {h0 : Heap} {wr : List Addr} {Q : Option Value → Heap → Prop} {kc ks : Nat} (hlk : meth.locks = false) (hret : meth.sig.returnType = none) (hd : decode code pc = .ok (.return_, 1))  (hc : cells ≤ kc) (hs : slots ≤ ks) (K : Keep h0 h wr) (q : Q (none) h) : Wp p e below (PN s n0 h0 wr Q kc ks) T (mkF m pc L []) := by
  obtain ⟨X, rfl, -, -, hx, hby, -, N, -, b⟩ := A
  obtain ⟨-, rfl⟩ : false = false ∧ vm = s.vm := b.elim id fun b => by cases b.1
  have X : Stand p l e R s m args below meth c T locs cells slots := X
  obtain ⟨fs, hr, hrun, hended, hW, hsame⟩ := X.leave (v := none) (by intro _; rfl) hlk
  refine ⟨_, _, ?_, hrun, hended, _, _, rfl, ⟨N, K, q⟩, ⟨_, rfl⟩, hW, hsame.mono hc hs⟩
  exact X.returnOut hx hret (hb hby hd) hr
theorem f_retW (A : WS p l e R s m args below meth c Z EL n0 own code ml true vm T h locs cells slots) {a0 : Array Value} (hEL : EW Z a0 EL) {h0 : Heap} {wr : List Addr} {Q : Option Value → Heap → Prop} {kc ks : Nat} (hlk : meth.locks = false) (hret : meth.sig.returnType = none) (hd : decode code pc = .ok (.return_, 1))  (hc : cells ≤ kc) (hs : slots ≤ ks) (K : Keep h0 h wr) (q : Q (none) h) : Wp p e below (PW s Z EL n0 h0 wr Q kc ks) T (mkF m pc L []) := by
  obtain ⟨⟨k0, hS, hk⟩, hC⟩ := A.wide
  obtain ⟨X, rfl, hZ, -, hx, hby, -, N, -, -⟩ := A
  obtain ⟨fs, hr, hrun, hended, hW⟩ := X.leaveW hS hk (v := none) (by intro _; rfl) hlk
  refine ⟨_, _, ?_, hrun, hended, _, _, rfl, ⟨N, K, q⟩, hC.trans (show CHr Z EL vm T.heap T.vm T.heap from CHv.at X hZ hEL hC.1), hW.1, hW.2.1, hW.2.2.1, hW.2.2.2.mono hc hs⟩
  exact X.returnOut hx hret (hb hby hd) hr
theorem f_retIN (A : WS p l e R s m args below meth c Z EL n0 own code ml false vm T h locs cells slots) {h0 : Heap} {wr : List Addr} {Q : Option Value → Heap → Prop} {kc ks : Nat} (hlk : meth.locks = false) (hret : meth.sig.returnType = some .int) (hd : decode code pc = .ok (.ireturn, 1)) {z : Int32} (hc : cells ≤ kc) (hs : slots ≤ ks) (K : Keep h0 h wr) (q : Q (some (.int z)) h) : Wp p e below (PN s n0 h0 wr Q kc ks) T (mkF m pc L (.int z :: S)) := by
  obtain ⟨X, rfl, -, -, hx, hby, -, N, -, b⟩ := A
  obtain ⟨-, rfl⟩ : false = false ∧ vm = s.vm := b.elim id fun b => by cases b.1
  have X : Stand p l e R s m args below meth c T locs cells slots := X
  obtain ⟨fs, hr, hrun, hended, hW, hsame⟩ := X.leave (v := some (.int z)) (by intro h; rw [hret] at h; cases h) hlk
  refine ⟨_, _, ?_, hrun, hended, _, _, rfl, ⟨N, K, q⟩, ⟨_, rfl⟩, hW, hsame.mono hc hs⟩
  exact retOut X hx hret rfl (Or.inl ⟨rfl, Or.inl rfl, z, rfl⟩) (hb hby hd) hr
theorem f_retIW (A : WS p l e R s m args below meth c Z EL n0 own code ml true vm T h locs cells slots) {a0 : Array Value} (hEL : EW Z a0 EL) {h0 : Heap} {wr : List Addr} {Q : Option Value → Heap → Prop} {kc ks : Nat} (hlk : meth.locks = false) (hret : meth.sig.returnType = some .int) (hd : decode code pc = .ok (.ireturn, 1)) {z : Int32} (hc : cells ≤ kc) (hs : slots ≤ ks) (K : Keep h0 h wr) (q : Q (some (.int z)) h) : Wp p e below (PW s Z EL n0 h0 wr Q kc ks) T (mkF m pc L (.int z :: S)) := by
  obtain ⟨⟨k0, hS, hk⟩, hC⟩ := A.wide
  obtain ⟨X, rfl, hZ, -, hx, hby, -, N, -, -⟩ := A
  obtain ⟨fs, hr, hrun, hended, hW⟩ := X.leaveW hS hk (v := some (.int z)) (by intro h; rw [hret] at h; cases h) hlk
  refine ⟨_, _, ?_, hrun, hended, _, _, rfl, ⟨N, K, q⟩, hC.trans (show CHr Z EL vm T.heap T.vm T.heap from CHv.at X hZ hEL hC.1), hW.1, hW.2.1, hW.2.2.1, hW.2.2.2.mono hc hs⟩
  exact retOut X hx hret rfl (Or.inl ⟨rfl, Or.inl rfl, z, rfl⟩) (hb hby hd) hr
theorem f_retBN (A : WS p l e R s m args below meth c Z EL n0 own code ml false vm T h locs cells slots) {h0 : Heap} {wr : List Addr} {Q : Option Value → Heap → Prop} {kc ks : Nat} (hlk : meth.locks = false) {t : FieldType} (hret : meth.sig.returnType = some t) (hd : decode code pc = .ok (.ireturn, 1)) {z : Int32} (ht : t = .boolean ∨ t = .byte ∨ t = .char ∨ t = .short) (z' : Int32) (hz : nar t z = z') (hc : cells ≤ kc) (hs : slots ≤ ks) (K : Keep h0 h wr) (q : Q (some (.int z')) h) : Wp p e below (PN s n0 h0 wr Q kc ks) T (mkF m pc L (.int z :: S)) := by
  obtain ⟨X, rfl, -, -, hx, hby, -, N, -, b⟩ := A
  obtain ⟨-, rfl⟩ : false = false ∧ vm = s.vm := b.elim id fun b => by cases b.1
  have X : Stand p l e R s m args below meth c T locs cells slots := X
  obtain ⟨fs, hr, hrun, hended, hW, hsame⟩ := X.leave (v := some (.int z')) (by intro h; rw [hret] at h; cases h) hlk
  refine ⟨_, _, ?_, hrun, hended, _, _, rfl, ⟨N, K, q⟩, ⟨_, rfl⟩, hW, hsame.mono hc hs⟩
  subst hz; exact retN X hx hret ht (hb hby hd) hr
theorem f_retBW (A : WS p l e R s m args below meth c Z EL n0 own code ml true vm T h locs cells slots) {a0 : Array Value} (hEL : EW Z a0 EL) {h0 : Heap} {wr : List Addr} {Q : Option Value → Heap → Prop} {kc ks : Nat} (hlk : meth.locks = false) {t : FieldType} (hret : meth.sig.returnType = some t) (hd : decode code pc = .ok (.ireturn, 1)) {z : Int32} (ht : t = .boolean ∨ t = .byte ∨ t = .char ∨ t = .short) (z' : Int32) (hz : nar t z = z') (hc : cells ≤ kc) (hs : slots ≤ ks) (K : Keep h0 h wr) (q : Q (some (.int z')) h) : Wp p e below (PW s Z EL n0 h0 wr Q kc ks) T (mkF m pc L (.int z :: S)) := by
  obtain ⟨⟨k0, hS, hk⟩, hC⟩ := A.wide
  obtain ⟨X, rfl, hZ, -, hx, hby, -, N, -, -⟩ := A
  obtain ⟨fs, hr, hrun, hended, hW⟩ := X.leaveW hS hk (v := some (.int z')) (by intro h; rw [hret] at h; cases h) hlk
  refine ⟨_, _, ?_, hrun, hended, _, _, rfl, ⟨N, K, q⟩, hC.trans (show CHr Z EL vm T.heap T.vm T.heap from CHv.at X hZ hEL hC.1), hW.1, hW.2.1, hW.2.2.1, hW.2.2.2.mono hc hs⟩
  subst hz; exact retN X hx hret ht (hb hby hd) hr
theorem f_retJN (A : WS p l e R s m args below meth c Z EL n0 own code ml false vm T h locs cells slots) {h0 : Heap} {wr : List Addr} {Q : Option Value → Heap → Prop} {kc ks : Nat} (hlk : meth.locks = false) (hret : meth.sig.returnType = some .long) (hd : decode code pc = .ok (.lreturn, 1)) {z : Int64} (hc : cells ≤ kc) (hs : slots ≤ ks) (K : Keep h0 h wr) (q : Q (some (.long z)) h) : Wp p e below (PN s n0 h0 wr Q kc ks) T (mkF m pc L (.long z :: S)) := by
  obtain ⟨X, rfl, -, -, hx, hby, -, N, -, b⟩ := A
  obtain ⟨-, rfl⟩ : false = false ∧ vm = s.vm := b.elim id fun b => by cases b.1
  have X : Stand p l e R s m args below meth c T locs cells slots := X
  obtain ⟨fs, hr, hrun, hended, hW, hsame⟩ := X.leave (v := some (.long z)) (by intro h; rw [hret] at h; cases h) hlk
  refine ⟨_, _, ?_, hrun, hended, _, _, rfl, ⟨N, K, q⟩, ⟨_, rfl⟩, hW, hsame.mono hc hs⟩
  exact retOut X hx hret rfl (Or.inr (Or.inl ⟨rfl, rfl, z, rfl⟩)) (hb hby hd) hr
theorem f_retJW (A : WS p l e R s m args below meth c Z EL n0 own code ml true vm T h locs cells slots) {a0 : Array Value} (hEL : EW Z a0 EL) {h0 : Heap} {wr : List Addr} {Q : Option Value → Heap → Prop} {kc ks : Nat} (hlk : meth.locks = false) (hret : meth.sig.returnType = some .long) (hd : decode code pc = .ok (.lreturn, 1)) {z : Int64} (hc : cells ≤ kc) (hs : slots ≤ ks) (K : Keep h0 h wr) (q : Q (some (.long z)) h) : Wp p e below (PW s Z EL n0 h0 wr Q kc ks) T (mkF m pc L (.long z :: S)) := by
  obtain ⟨⟨k0, hS, hk⟩, hC⟩ := A.wide
  obtain ⟨X, rfl, hZ, -, hx, hby, -, N, -, -⟩ := A
  obtain ⟨fs, hr, hrun, hended, hW⟩ := X.leaveW hS hk (v := some (.long z)) (by intro h; rw [hret] at h; cases h) hlk
  refine ⟨_, _, ?_, hrun, hended, _, _, rfl, ⟨N, K, q⟩, hC.trans (show CHr Z EL vm T.heap T.vm T.heap from CHv.at X hZ hEL hC.1), hW.1, hW.2.1, hW.2.2.1, hW.2.2.2.mono hc hs⟩
  exact retOut X hx hret rfl (Or.inr (Or.inl ⟨rfl, rfl, z, rfl⟩)) (hb hby hd) hr
theorem f_retRN (A : WS p l e R s m args below meth c Z EL n0 own code ml false vm T h locs cells slots) {h0 : Heap} {wr : List Addr} {Q : Option Value → Heap → Prop} {kc ks : Nat} (hlk : meth.locks = false) {t : FieldType} (hret : meth.sig.returnType = some t) (hd : decode code pc = .ok (.areturn, 1)) {z : Value} (ht : t.isReference = true) (hz : z.isRef = true) (hc : cells ≤ kc) (hs : slots ≤ ks) (K : Keep h0 h wr) (q : Q (some z) h) : Wp p e below (PN s n0 h0 wr Q kc ks) T (mkF m pc L (z :: S)) := by
  obtain ⟨X, rfl, -, -, hx, hby, -, N, -, b⟩ := A
  obtain ⟨-, rfl⟩ : false = false ∧ vm = s.vm := b.elim id fun b => by cases b.1
  have X : Stand p l e R s m args below meth c T locs cells slots := X
  obtain ⟨fs, hr, hrun, hended, hW, hsame⟩ := X.leave (v := some z) (by intro h; rw [hret] at h; cases h) hlk
  refine ⟨_, _, ?_, hrun, hended, _, _, rfl, ⟨N, K, q⟩, ⟨_, rfl⟩, hW, hsame.mono hc hs⟩
  exact retOut X hx hret (by cases t <;> cases z <;> first | rfl | cases ht | cases hz) (Or.inr (Or.inr (Or.inr (Or.inr ⟨rfl, ht, hz⟩)))) (hb hby hd) hr
theorem f_retRW (A : WS p l e R s m args below meth c Z EL n0 own code ml true vm T h locs cells slots) {a0 : Array Value} (hEL : EW Z a0 EL) {h0 : Heap} {wr : List Addr} {Q : Option Value → Heap → Prop} {kc ks : Nat} (hlk : meth.locks = false) {t : FieldType} (hret : meth.sig.returnType = some t) (hd : decode code pc = .ok (.areturn, 1)) {z : Value} (ht : t.isReference = true) (hz : z.isRef = true) (hc : cells ≤ kc) (hs : slots ≤ ks) (K : Keep h0 h wr) (q : Q (some z) h) : Wp p e below (PW s Z EL n0 h0 wr Q kc ks) T (mkF m pc L (z :: S)) := by
  obtain ⟨⟨k0, hS, hk⟩, hC⟩ := A.wide
  obtain ⟨X, rfl, hZ, -, hx, hby, -, N, -, -⟩ := A
  obtain ⟨fs, hr, hrun, hended, hW⟩ := X.leaveW hS hk (v := some z) (by intro h; rw [hret] at h; cases h) hlk
  refine ⟨_, _, ?_, hrun, hended, _, _, rfl, ⟨N, K, q⟩, hC.trans (show CHr Z EL vm T.heap T.vm T.heap from CHv.at X hZ hEL hC.1), hW.1, hW.2.1, hW.2.2.1, hW.2.2.2.mono hc hs⟩
  exact retOut X hx hret (by cases t <;> cases z <;> first | rfl | cases ht | cases hz) (Or.inr (Or.inr (Or.inr (Or.inr ⟨rfl, ht, hz⟩)))) (hb hby hd) hr
theorem f_callS (A : WS p l e R s m args below meth c Z EL n0 own code ml bw vm T h locs cells slots) {i : Nat} {y : MethodName} {bytes : ByteArray} {maxL : Nat} {ret : Option FieldType} {wr : List Addr} {Q : Option Value → Heap → Prop} {kc ks : Nat} (hd : decode code pc = .ok (.invokestatic i, 3)) (hp : pc + 3 = pc') (w1 : (Cond.methodLink own i y).before a0 Z = true) (w2 : (Cond.static y).before a0 Z = true) (w3 : (Cond.initialized y.cls).before a0 Z = true) (w4 : (Cond.code y bytes maxL ret).before a0 Z = true) (hy : y.cls ≠ "java/lang/invoke/MethodHandle" ∧ y.cls ≠ "java/lang/invoke/VarHandle")
    {ps : List FieldType} {r : Option FieldType} (pd : parseMethodDescriptor y.desc = some ⟨ps, r⟩) (argsL rest : List Value) (hal : argsL.length = ps.length) (hS : S = argsL.reverse ++ rest) (hml : L.size = ml) (W : Nat) (hW : (rest.map fun v => v.category).sum ≤ W) (hK : BkN l R p e below (s.setVm vm) args y 3 W argsL.toArray h n0 wr Q kc ks) (hc : cells + kc ≤ R.cells) (hs : slots + ks ≤ R.slots) (hn : ∀ x ∈ wr, n0 ≤ x) (sf : bw = true → ∀ x ∈ wr, Safe Z EL vm h x)
    (k : ∀ (v : Option Value) (T' : State) (h' : Heap) (L' : List Loc), WS p l e R s m args below meth c Z EL n0 own code ml bw vm T' h' (locs ++ L') (cells + kc) (slots + ks) → Keep h h' wr → Q v h' → Wp p e below P T' (mkF m pc' L (v.toList ++ rest))) : Wp p e below P T (mkF m pc L S) := by
  subst hp hS
  obtain ⟨v, _, ⟨T', L1, k1, n1⟩, -, X', ⟨L', ⟨N, K, q⟩, l1, y1, z1⟩, st⟩ := Jvm.LawKit.callS A.1 A.2.2.2.2.1 (y := y) A.2.2.2.1 (mvT A.hZ w1) (mvT A.hZ w2) (mvT A.hZ w3) (mvT A.hZ w4) hy hK (g := mkF m pc L (argsL.reverse ++ rest)) rfl (hml.trans A.2.2.2.2.2.2.1.symm) (argsL := argsL) (rest := rest) (lenOf pd hal) rfl (by show 2 * 0 + _ ≤ _; omega) (hb A.2.2.2.2.2.1 hd) (fun _ _ => ⟨rfl, A.2.1, hc, hs⟩)
  dsimp only [Pt.U, Pt.locs, Pt.cells, Pt.slots] at X' l1 y1 z1 st N K q
  subst l1 y1 z1
  exact (k v T' T'.heap L' (A.kept X' rfl (A.2.2.2.2.2.2.2.1.app N) K hn sf) K q).go st
theorem f_callI (A : WS p l e R s m args below meth c Z EL n0 own code ml bw vm T h locs cells slots) {i : Nat} {y : MethodName} {bytes : ByteArray} {maxL : Nat} {a : Addr} {wr : List Addr} {Q : Option Value → Heap → Prop} {kc ks : Nat} (hd : decode code pc = .ok (.invokespecial i, 3)) (hp : pc + 3 = pc') (hy1 : y.name = "<init>") (w1 : (Cond.methodLink own i y).before a0 Z = true) (w2 : (Cond.instanceMethod y).before a0 Z = true) (w4 : (Cond.code y bytes maxL none).before a0 Z = true) (hy : y.cls ≠ "java/lang/invoke/MethodHandle" ∧ y.cls ≠ "java/lang/invoke/VarHandle")
    {ps : List FieldType} {r : Option FieldType} (pd : parseMethodDescriptor y.desc = some ⟨ps, r⟩) (argsL rest : List Value) (hal : argsL.length = ps.length) (hS : S = argsL.reverse ++ .ref a :: rest) (hml : L.size = ml) (W : Nat) (hW : (rest.map fun v => v.category).sum ≤ W) (hK : BkN l R p e below (s.setVm vm) args y 3 W (.ref a :: argsL).toArray h n0 wr Q kc ks) (hc : cells + kc ≤ R.cells) (hs : slots + ks ≤ R.slots) (hn : ∀ x ∈ wr, n0 ≤ x) (sf : bw = true → ∀ x ∈ wr, Safe Z EL vm h x)
    (k : ∀ (v : Option Value) (T' : State) (h' : Heap) (L' : List Loc), WS p l e R s m args below meth c Z EL n0 own code ml bw vm T' h' (locs ++ L') (cells + kc) (slots + ks) → Keep h h' wr → Q v h' → Wp p e below P T' (mkF m pc' L (v.toList ++ rest))) : Wp p e below P T (mkF m pc L S) := by
  subst hp hS
  obtain ⟨v, _, ⟨T', L1, k1, n1⟩, -, X', ⟨L', ⟨N, K, q⟩, l1, y1, z1⟩, st⟩ := A.1.specialBack A.2.2.2.2.1 (y := y) hy1 A.2.2.2.1 (mvT A.hZ w1) (mvT A.hZ w2) (mvT A.hZ w4) hy hK (g := mkF m pc L (argsL.reverse ++ .ref a :: rest)) rfl (hml.trans A.2.2.2.2.2.2.1.symm) (Steps.refl _) (a := a) (argsL := argsL) (rest := rest) (lenOf pd hal) rfl (by show 2 * 0 + _ ≤ _; omega) (hb A.2.2.2.2.2.1 hd) (fun _ _ => ⟨rfl, A.2.1, hc, hs⟩)
  dsimp only [Pt.U, Pt.locs, Pt.cells, Pt.slots] at X' l1 y1 z1 st N K q
  subst l1 y1 z1
  exact (k v T' T'.heap L' (A.kept X' rfl (A.2.2.2.2.2.2.2.1.app N) K hn sf) K q).gos st
theorem f_callV (A : WS p l e R s m args below meth c Z EL n0 own code ml bw vm T h locs cells slots) {i : Nat} {y z : MethodName} {C : String} {a : Addr} {wr : List Addr} {Q : Option Value → Heap → Prop} {kc ks : Nat} (hd : decode code pc = .ok (.invokevirtual i, 3)) (hp : pc + 3 = pc') (w1 : (Cond.methodLink own i y).before a0 Z = true) (w2 : (Cond.declares y).before a0 Z = true) (hnf : NotFace (s.setVm vm) y) (w3 : (Cond.selects C y z).before a0 Z = true) (w4 : (Cond.instanceMethod z).before a0 Z = true) (hy : y.cls ≠ "java/lang/invoke/MethodHandle" ∧ y.cls ≠ "java/lang/invoke/VarHandle") (E : Exa Z h a C)
    {ps : List FieldType} {r : Option FieldType} (pd : parseMethodDescriptor y.desc = some ⟨ps, r⟩) (argsL rest : List Value) (hal : argsL.length = ps.length) (hS : S = argsL.reverse ++ .ref a :: rest) (hml : L.size = ml) (W : Nat) (hW : (rest.map fun v => v.category).sum ≤ W) (hK : BkN l R p e below (s.setVm vm) args z 3 W (.ref a :: argsL).toArray h n0 wr Q kc ks) (hc : cells + kc ≤ R.cells) (hs : slots + ks ≤ R.slots) (hn : ∀ x ∈ wr, n0 ≤ x) (sf : bw = true → ∀ x ∈ wr, Safe Z EL vm h x)
    (k : ∀ (v : Option Value) (T' : State) (h' : Heap) (L' : List Loc), WS p l e R s m args below meth c Z EL n0 own code ml bw vm T' h' (locs ++ L') (cells + kc) (slots + ks) → Keep h h' wr → Q v h' → Wp p e below P T' (mkF m pc' L (v.toList ++ rest))) : Wp p e below P T (mkF m pc L S) := by
  subst hp hS
  obtain ⟨cq, kq, qa, qb, qc⟩ := isOf A.hZ A.2.1 E
  obtain ⟨v, _, ⟨T', L1, k1, n1⟩, -, X', ⟨L', ⟨N, K, q⟩, l1, y1, z1⟩, st⟩ := A.1.virtualBack A.2.2.2.2.1 (y := y) (z := z) A.2.2.2.1 (mvT A.hZ w1) (mvT A.hZ w2) hnf (mvT A.hZ w3) (mvT A.hZ w4) hy hK qa qc (g := mkF m pc L (argsL.reverse ++ .ref a :: rest)) rfl (hml.trans A.2.2.2.2.2.2.1.symm) (Steps.refl _) (argsL := argsL) (rest := rest) (lenOf pd hal) rfl (by show 2 * 0 + _ ≤ _; omega) (hb A.2.2.2.2.2.1 hd) (fun _ _ => ⟨rfl, A.2.1, hc, hs⟩)
  dsimp only [Pt.U, Pt.locs, Pt.cells, Pt.slots] at X' l1 y1 z1 st N K q
  subst l1 y1 z1
  exact (k v T' T'.heap L' (A.kept X' rfl (A.2.2.2.2.2.2.2.1.app N) K hn sf) K q).gos st
theorem nfS {y : MethodName} {C : String} (A : WS p l e R s m args below meth c Z EL n0 own code ml bw vm T h locs cells slots) (w3 : (Cond.selects C y y).before a0 Z = true) : NotFace (s.setVm vm) y := notFace_of_selects (args := #[]) (mvT A.hZ w3)
/-- the payer, of a contract -/
theorem CN.pay {y : MethodName} {bytes : ByteArray} {maxL : Nat} {ret : Option FieldType} {rm : Room} {as' : Array Value} {wr : List Addr} {Q : Option Value → Heap → Prop} {len W : Nat} (A : WS p l e R s m args below meth c Z EL n0 own code ml bw vm T h locs cells slots) (hM : CN l y bytes maxL ret [] rm Z n0 h as' wr Q) (wc : (Cond.code y bytes maxL ret).before a0 Z = true) (wz : (Cond.initialized y.cls).before a0 Z = true) (hf : rm.frames + 1 ≤ R.frames) (hl : W + (maxL + 11) + rm.locals ≤ R.locals) :
    BkN l R p e below (s.setVm vm) args y len W as' h n0 wr Q rm.cells rm.slots :=
  backOf (Q := fun v h' L => Fr n0 L ∧ Keep h h' wr ∧ Q v h') hM A.hZ wc wz hf hl
theorem nfOf {U : State} {a : Array Value} {C : String} {y y0 : MethodName} (w : (Cond.selects C y0 y0).before a U = true) (hc : y0.cls = y.cls) : NotFace U y := fun r0 h0 => by
  obtain ⟨c2, r2, m2, q1, q2, q3, q4, kP, hkP, hkPi⟩ := Cond.selects_spec w
  have e1 := findClass_of_methodNamed h0
  have e2 := findClass_of_methodNamed q3
  rw [hc] at e2
  have e3 : r0.cls = m2.cls := Option.some.inj (e1.symm.trans e2)
  exact ⟨kP, by rw [e3]; exact hkP, hkPi⟩
theorem nfT {C : String} {y y0 : MethodName} (A : WS p l e R s m args below meth c Z EL n0 own code ml bw vm T h locs cells slots) (w : (Cond.selects C y0 y0).before a0 Z = true) (hc : y0.cls = y.cls) : NotFace (s.setVm vm) y := nfOf (a := #[]) (mvT A.hZ w) hc
theorem sameSelf {U : State} {a : Array Value} {y : MethodName} (wi : (Cond.instanceMethod y).before a U = true) (nf : NotFace U y) (hy : y.cls ≠ "java/lang/invoke/MethodHandle" ∧ y.cls ≠ "java/lang/invoke/VarHandle") : (Cond.sameMethod y.cls y.cls y.name y.desc).before a U = true := by
  obtain ⟨mk, methM, hnamed, -, -, -⟩ := Cond.instanceMethod_spec wi
  obtain ⟨k, hk, hni⟩ := nf mk hnamed
  have hf : U.methodFound? y.cls y.name y.desc = some mk := State.methodFound?_of_named hnamed hy
  have hc := findClass_of_methodNamed hnamed
  have hn : U.methodNamed? ⟨y.cls, y.name, y.desc⟩ = some mk := hnamed
  simp only [Cond.before, Cond.holds, Cond.value, hc, hf, hn]
  simp [hk, hni]
theorem f_callP (A : WS p l e R s m args below meth c Z EL n0 own code ml bw vm T h locs cells slots) {i : Nat} {y : MethodName} {bytes : ByteArray} {maxL : Nat} {ret : Option FieldType} {C D : String} {a : Addr} {wr : List Addr} {Q : Option Value → Heap → Prop} {kc ks : Nat} (hd : decode code pc = .ok (.invokevirtual i, 3)) (hp : pc + 3 = pc') (w1 : (Cond.methodLink own i y).before a0 Z = true) (w2 : (Cond.instanceMethod y).before a0 Z = true) (w3 : (Cond.privateMethod y).before a0 Z = true) (w4 : (Cond.selects D y y).before a0 Z = true) (wc : (Cond.code y bytes maxL ret).before a0 Z = true) (hy : y.cls ≠ "java/lang/invoke/MethodHandle" ∧ y.cls ≠ "java/lang/invoke/VarHandle") (E : Exa Z h a C)
    {ps : List FieldType} {r : Option FieldType} (pd : parseMethodDescriptor y.desc = some ⟨ps, r⟩) (argsL rest : List Value) (hal : argsL.length = ps.length) (hS : S = argsL.reverse ++ .ref a :: rest) (hml : L.size = ml) (W : Nat) (hW : (rest.map fun v => v.category).sum ≤ W) (hK : BkN l R p e below (s.setVm vm) args y 3 W (.ref a :: argsL).toArray h n0 wr Q kc ks) (hc : cells + kc ≤ R.cells) (hs : slots + ks ≤ R.slots) (hn : ∀ x ∈ wr, n0 ≤ x) (sf : bw = true → ∀ x ∈ wr, Safe Z EL vm h x)
    (k : ∀ (v : Option Value) (T' : State) (h' : Heap) (L' : List Loc), WS p l e R s m args below meth c Z EL n0 own code ml bw vm T' h' (locs ++ L') (cells + kc) (slots + ks) → Keep h h' wr → Q v h' → Wp p e below P T' (mkF m pc' L (v.toList ++ rest))) : Wp p e below P T (mkF m pc L S) := by
  subst hp hS
  have hpriv := Cond.privateMethod_at (mvP (args := args) A.hZ w3)
  have hinst : (Cond.instanceMethod y).before args (s.setVm vm) = true := mvT A.hZ w2
  obtain ⟨mk, methM, hnamed, -, -, -⟩ := Cond.instanceMethod_spec hinst
  obtain ⟨kk, hkk, hni⟩ := notFace_of_selects (args := args) (mvT A.hZ w4) mk hnamed
  have hsel := selects_self_of_private (findClass_of_methodNamed hnamed) hkk hni hpriv hinst hy
  obtain ⟨cq, q1, q2⟩ := E.cell
  obtain ⟨v, _, ⟨T', L1, k1, n1⟩, -, X', ⟨L', ⟨N, K, q⟩, l1, y1, z1⟩, st⟩ := A.1.privateBack A.2.2.2.2.1 (y := y) A.2.2.2.1 (mvT A.hZ w1) hinst hsel hpriv (mvT A.hZ wc) hy hK (g := mkF m pc L (argsL.reverse ++ .ref a :: rest)) rfl (hml.trans A.2.2.2.2.2.2.1.symm) (Steps.refl _) (a := a) (by rw [A.2.1]; exact q1) q2 (argsL := argsL) (rest := rest) (lenOf pd hal) rfl (by show 2 * 0 + _ ≤ _; omega) (hb A.2.2.2.2.2.1 hd) (fun _ _ => ⟨rfl, A.2.1, hc, hs⟩)
  dsimp only [Pt.U, Pt.locs, Pt.cells, Pt.slots] at X' l1 y1 z1 st N K q
  subst l1 y1 z1
  exact (k v T' T'.heap L' (A.kept X' rfl (A.2.2.2.2.2.2.2.1.app N) K hn sf) K q).gos st
theorem f_callU (A : WS p l e R s m args below meth c Z EL n0 own code ml bw vm T h locs cells slots) {i : Nat} {y : MethodName} {bytes : ByteArray} {maxL : Nat} {ret : Option FieldType} {C : String} {a : Addr} {wr : List Addr} {Q : Option Value → Heap → Prop} {kc ks : Nat} (hd : decode code pc = .ok (.invokespecial i, 3)) (hp : pc + 3 = pc') (w1 : (Cond.methodLink own i y).before a0 Z = true) (nf : NotFace Z y) (hy2 : y.cls ≠ "java/lang/invoke/MethodHandle" ∧ y.cls ≠ "java/lang/invoke/VarHandle") (w3 : (Cond.instanceMethod y).before a0 Z = true) (w4 : (Cond.superclass own y.cls).before a0 Z = true) (wc : (Cond.code y bytes maxL ret).before a0 Z = true) (hy : y.name ≠ "<init>") (E : Exa Z h a C)
    {ps : List FieldType} {r : Option FieldType} (pd : parseMethodDescriptor y.desc = some ⟨ps, r⟩) (argsL rest : List Value) (hal : argsL.length = ps.length) (hS : S = argsL.reverse ++ .ref a :: rest) (hml : L.size = ml) (W : Nat) (hW : (rest.map fun v => v.category).sum ≤ W) (hK : BkN l R p e below (s.setVm vm) args y 3 W (.ref a :: argsL).toArray h n0 wr Q kc ks) (hc : cells + kc ≤ R.cells) (hs : slots + ks ≤ R.slots) (hn : ∀ x ∈ wr, n0 ≤ x) (sf : bw = true → ∀ x ∈ wr, Safe Z EL vm h x)
    (k : ∀ (v : Option Value) (T' : State) (h' : Heap) (L' : List Loc), WS p l e R s m args below meth c Z EL n0 own code ml bw vm T' h' (locs ++ L') (cells + kc) (slots + ks) → Keep h h' wr → Q v h' → Wp p e below P T' (mkF m pc' L (v.toList ++ rest))) : Wp p e below P T (mkF m pc L S) := by
  subst hp hS
  obtain ⟨v, _, ⟨T', L1, k1, n1⟩, -, X', ⟨L', ⟨N, K, q⟩, l1, y1, z1⟩, st⟩ := superBack A.1 A.2.2.2.2.1 A.hZ (y := y) A.2.2.2.1 w1 (sameSelf w3 nf hy2) w3 w4 hy hK A.2.1 (Ins.self E) (g := mkF m pc L (argsL.reverse ++ .ref a :: rest)) rfl (hml.trans A.2.2.2.2.2.2.1.symm) wc (argsL := argsL) (rest := rest) (lenOf pd hal) rfl (by show 2 * 0 + _ ≤ _; omega) (hb A.2.2.2.2.2.1 hd) (fun _ _ => ⟨rfl, A.2.1, hc, hs⟩)
  dsimp only [Pt.U, Pt.locs, Pt.cells, Pt.slots] at X' l1 y1 z1 st N K q
  subst l1 y1 z1
  exact (k v T' T'.heap L' (A.kept X' rfl (A.2.2.2.2.2.2.2.1.app N) K hn sf) K q).gos st
theorem f_callF (A : WS p l e R s m args below meth c Z EL n0 own code ml bw vm T h locs cells slots) {i n : Nat} {y z : MethodName} {C : String} {a : Addr} {wr : List Addr} {Q : Option Value → Heap → Prop} {kc ks : Nat} (hd : decode code pc = .ok (.invokeinterface i n, 5)) (hp : pc + 5 = pc') (w1 : (Cond.methodLink own i y).before a0 Z = true) (w2 : (Cond.declares y).before a0 Z = true) (w3 : (Cond.interfaceMethod y.cls y.cls y.name y.desc).before a0 Z = true) (hfc : ((Cond.interfaceMethod y.cls y.cls y.name y.desc).onTables && (Cond.interfaceMethod y.cls y.cls y.name y.desc).keepsFace) = true) (w4 : (Cond.selects C y z).before a0 Z = true) (w5 : (Cond.instanceMethod z).before a0 Z = true) (w6 : (Cond.publicMethod z).before a0 Z = true) (w7 : (Cond.unhidden C y.name y.desc).before a0 Z = true) (w8 : (Cond.castable C y.cls).before a0 Z = true) (hy : y.cls ≠ "java/lang/invoke/MethodHandle" ∧ y.cls ≠ "java/lang/invoke/VarHandle") (E : Exa Z h a C)
    {ps : List FieldType} {r : Option FieldType} (pd : parseMethodDescriptor y.desc = some ⟨ps, r⟩) (argsL rest : List Value) (hal : argsL.length = ps.length) (hS : S = argsL.reverse ++ .ref a :: rest) (hml : L.size = ml) (W : Nat) (hW : (rest.map fun v => v.category).sum ≤ W) (hK : BkN l R p e below (s.setVm vm) args z 5 W (.ref a :: argsL).toArray h n0 wr Q kc ks) (hc : cells + kc ≤ R.cells) (hs : slots + ks ≤ R.slots) (hn : ∀ x ∈ wr, n0 ≤ x) (sf : bw = true → ∀ x ∈ wr, Safe Z EL vm h x)
    (k : ∀ (v : Option Value) (T' : State) (h' : Heap) (L' : List Loc), WS p l e R s m args below meth c Z EL n0 own code ml bw vm T' h' (locs ++ L') (cells + kc) (slots + ks) → Keep h h' wr → Q v h' → Wp p e below P T' (mkF m pc' L (v.toList ++ rest))) : Wp p e below P T (mkF m pc L S) := by
  subst hp hS
  obtain ⟨cq, kq, qa, qb, qc⟩ := isOf A.hZ A.2.1 E
  obtain ⟨v, _, ⟨T', L1, k1, n1⟩, -, X', ⟨L', ⟨N, K, q⟩, l1, y1, z1⟩, st⟩ := A.1.interfaceBack A.2.2.2.2.1 (xi := y) (y := z) A.2.2.2.1 (mvT A.hZ w1) (mvT A.hZ w2) (mvT A.hZ w3 hfc) (mvT A.hZ w4) (mvT A.hZ w5) (mvT A.hZ w6) (mvT A.hZ w7) (mvT A.hZ w8) hy hK qa qb qc (g := mkF m pc L (argsL.reverse ++ .ref a :: rest)) rfl (hml.trans A.2.2.2.2.2.2.1.symm) (Steps.refl _) (argsL := argsL) (rest := rest) (lenOf pd hal) rfl (by show 2 * 0 + _ ≤ _; omega) (hb A.2.2.2.2.2.1 hd) (fun _ _ => ⟨rfl, A.2.1, hc, hs⟩)
  dsimp only [Pt.U, Pt.locs, Pt.cells, Pt.slots] at X' l1 y1 z1 st N K q
  subst l1 y1 z1
  exact (k v T' T'.heap L' (A.kept X' rfl (A.2.2.2.2.2.2.2.1.app N) K hn sf) K q).gos st
theorem f_clone (A : WS p l e R s m args below meth c Z EL n0 own code ml bw vm T h locs cells slots) {ad : String} {i : Nat} {a : Addr} {kA : ClassId} {ty : FieldType} {z : Int32} {vs : List Value} {dv : Value} (W cap : Nat) (hd : decode code pc = .ok (.invokevirtual i, 3)) (hp : pc + 3 = pc') (w1 : (Cond.methodLink own i ⟨ad, "clone", "()Ljava/lang/Object;"⟩).before a0 Z = true) (w2 : (Cond.sameMethod ad "java/lang/Object" "clone" "()Ljava/lang/Object;").before a0 Z = true) (w3 : (Cond.native ⟨"java/lang/Object", "clone", "()Ljava/lang/Object;"⟩).before a0 Z = true) (w4 : (Cond.instanceMethod ⟨"java/lang/Object", "clone", "()Ljava/lang/Object;"⟩).before a0 Z = true) (w5 : (Cond.selects ad ⟨ad, "clone", "()Ljava/lang/Object;"⟩ ⟨"java/lang/Object", "clone", "()Ljava/lang/Object;"⟩).before a0 Z = true) (w6 : (Cond.castable ad "java/lang/Cloneable").before a0 Z = true)
    (F : Arv Z h a kA ty z vs dv) (E : Exa Z h a ad) (hml : L.size = ml) (hf : 1 ≤ R.frames) (hW : (S.map fun v => v.category).sum ≤ W) (hl : W + 14 ≤ R.locals) (hcap : z.toNatClampNeg ≤ cap) (hc : cells + 1 ≤ R.cells) (hsl : slots + cap ≤ R.slots)
    (k : ∀ (b : Addr) (T' : State) (h' : Heap), b = h.size → WS p l e R s m args below meth c Z EL n0 own code ml bw vm T' h' locs (cells + 1) (slots + cap) → Ext h h' → Arv Z h' b kA ty z vs dv → Exa Z h' b ad → Wp p e below P T' (mkF m pc' L (.ref b :: S))) : Wp p e below P T (mkF m pc L (.ref a :: S)) := by
  subst hp
  obtain ⟨T', h', X', q, E', F', G', st⟩ := cloneH A.1 A.2.2.2.2.1 A.hZ A.2.2.2.1 w1 w2 w3 w4 w5 w6 A.2.1 F.arh E (g := mkF m pc L (.ref a :: S)) rfl (hml.trans A.2.2.2.2.2.2.1.symm) rfl (hb A.2.2.2.2.2.1 hd) hf (W := W) (by show 2 * 0 + _ ≤ _; omega) hl hcap hc hsl
  exact (k _ T' h' rfl (A.grow X' q E') E' F' G').go st
theorem f_arrcpy (A : WS p l e R s m args below meth c Z EL n0 own code ml bw vm T h locs cells slots) {i : Nat} {a b : Addr} {kA kB : ClassId} {ty ty' : FieldType} {z z' sp dp nn : Int32} {vs vd us vd' : List Value} {dv dd : Value} (W : Nat) (hd : decode code pc = .ok (.invokestatic i, 3)) (hp : pc + 3 = pc') (w1 : (Cond.methodLink own i Jvm.Stand.acN).before a0 Z = true) (w2 : (Cond.native Jvm.Stand.acN).before a0 Z = true) (w3 : (Cond.static Jvm.Stand.acN).before a0 Z = true) (w4 : (Cond.initialized "java/lang/System").before a0 Z = true)
    (F : Arv Z h a kA ty z vs dv) (G : Arv Z h b kB ty' z' vd dd) (hty : (ty = ty' ∧ refKind ty = false) ∨ (refKind ty = true ∧ refKind ty' = true ∧ StoL Z h b us)) (h1 : ¬ sp < 0) (h2 : ¬ dp < 0) (h3 : ¬ nn < 0) (h4 : sp.toNatClampNeg + nn.toNatClampNeg ≤ z.toNatClampNeg) (h5 : dp.toNatClampNeg + nn.toNatClampNeg ≤ z'.toNatClampNeg)
    (hus : us = (List.range nn.toNatClampNeg).map fun i => vs.getD (sp.toNatClampNeg + i) dv) (hll : dp.toNatClampNeg + nn.toNatClampNeg ≤ vd.length) (hvd : vd.take dp.toNatClampNeg ++ us ++ vd.drop (dp.toNatClampNeg + nn.toNatClampNeg) = vd') (ge : n0 ≤ b) (sf : bw = true → Safe Z EL vm h b) (hml : L.size = ml) (hf : 1 ≤ R.frames) (hW : (S.map fun v => v.category).sum ≤ W) (hlo : W + (nativeFrameWords "java/lang/System" "arraycopy" 5 + 11) ≤ R.locals)
    (k : ∀ (T' : State) (h' : Heap) (L' : List Loc), WS p l e R s m args below meth c Z EL n0 own code ml bw vm T' h' L' cells slots → Keep h h' [b] → Arv Z h' b kB ty' z' vd' dd → Wp p e below P T' (mkF m pc' L S)) : Wp p e below P T (mkF m pc L (.int nn :: .int dp :: .ref b :: .int sp :: .ref a :: S)) := by
  subst hp hvd
  obtain ⟨T', h', L', X', q, N, K, V, st⟩ := cpA A.1 A.2.2.2.2.1 A.hZ A.2.2.2.1 w1 w2 w3 w4 A.2.1 F G hty h1 h2 h3 h4 h5 hus hll A.2.2.2.2.2.2.2.1 ge (g := mkF m pc L (.int nn :: .int dp :: .ref b :: .int sp :: .ref a :: S)) rfl (hml.trans A.2.2.2.2.2.2.1.symm) rfl (hb A.2.2.2.2.2.1 hd) hf (W := W) (by show 2 * 0 + _ ≤ _; omega) hlo
  exact (k T' h' L' (A.kept X' q N K (allS ge all0) (fun b => sfS (sf b) sf0)) K V).go st
theorem f_instNull (A : WS p l e R s m args below meth c Z EL n0 own code ml bw vm T h locs cells slots) {i : Nat} (hd : decode code pc = .ok (.instanceof i, 3)) (hp : pc + 3 = pc') (k : Wp p e below P T (mkF m pc' L (.int 0 :: S))) : Wp p e below P T (mkF m pc L (.null :: S)) := by
  subst hp; exact k.go fun t q => A.1.instanceofNull A.2.2.2.2.1 (g := mkF m pc L (.null :: S)) rfl rfl (hb A.2.2.2.2.2.1 hd) t q
theorem f_castNull (A : WS p l e R s m args below meth c Z EL n0 own code ml bw vm T h locs cells slots) {i : Nat} (hd : decode code pc = .ok (.checkcast i, 3)) (hp : pc + 3 = pc') (k : Wp p e below P T (mkF m pc' L (.null :: S))) : Wp p e below P T (mkF m pc L (.null :: S)) := by
  subst hp; exact k.go fun t q => A.1.checkcastNull A.2.2.2.2.1 (g := mkF m pc L (.null :: S)) rfl rfl (hb A.2.2.2.2.2.1 hd) t q
theorem f_instNo (A : WS p l e R s m args below meth c Z EL n0 own code ml bw vm T h locs cells slots) {C K : String} {i : Nat} {a : Addr} (hd : decode code pc = .ok (.instanceof i, 3)) (hp : pc + 3 = pc') (w : (Cond.classLink own i K).before a0 Z = true) (E : Exa Z h a C) (F : ∃ c t, Z.vm.findClass C = some c ∧ Z.vm.findClass K = some t ∧ Z.vm.assignable c t = false) (k : ∀ (T' : State), WS p l e R s m args below meth c Z EL n0 own code ml bw vm T' h locs cells slots → Wp p e below P T' (mkF m pc' L (.int 0 :: S))) : Wp p e below P T (mkF m pc L (.ref a :: S)) := by
  subst hp
  obtain ⟨T', X', q, st⟩ := instNo A.1 A.2.2.2.2.1 A.hZ A.2.2.2.1 w A.2.1 E F (g := mkF m pc L (.ref a :: S)) rfl rfl (hb A.2.2.2.2.2.1 hd)
  exact (k T' (A.still X' q)).go st
theorem f_callSW (A : WS p l e R s m args below meth c Z EL n0 own code ml true vm T h locs cells slots) {i : Nat} {y : MethodName} {bytes : ByteArray} {maxL : Nat} {ret : Option FieldType} {wr : List Addr} {Q : Option Value → Heap → Prop} {kc ks : Nat} (hd : decode code pc = .ok (.invokestatic i, 3)) (hp : pc + 3 = pc') (w1 : (Cond.methodLink own i y).before a0 Z = true) (w2 : (Cond.static y).before a0 Z = true) (w3 : (Cond.initialized y.cls).before a0 Z = true) (w4 : (Cond.code y bytes maxL ret).before a0 Z = true) (hy : y.cls ≠ "java/lang/invoke/MethodHandle" ∧ y.cls ≠ "java/lang/invoke/VarHandle")
    {ps : List FieldType} {r : Option FieldType} (pd : parseMethodDescriptor y.desc = some ⟨ps, r⟩) (argsL rest : List Value) (hal : argsL.length = ps.length) (hS : S = argsL.reverse ++ rest) (hml : L.size = ml) (W : Nat) (hW : (rest.map fun v => v.category).sum ≤ W) (hK : BkS l R p e below (s.setVm vm) args y 3 W argsL.toArray h n0 wr Q kc ks Z EL vm) (hc : cells + kc ≤ R.cells) (hs : slots + ks ≤ R.slots) (hn : ∀ x ∈ wr, n0 ≤ x)
    (k : ∀ (v : Option Value) (vm' : Vm) (T' : State) (h' : Heap) (L' : List Loc), WS p l e R s m args below meth c Z EL n0 own code ml true vm' T' h' (locs ++ L') (cells + kc) (slots + ks) → Keep h h' wr → CHr Z EL vm h vm' h' → Q v h' → Wp p e below P T' (mkF m pc' L (v.toList ++ rest))) : Wp p e below P T (mkF m pc L S) := by
  subst hp hS
  obtain ⟨v, _, ⟨T', L1, k1, n1⟩, -, X', hS2, hg2, ⟨L', ⟨N, K, q⟩, l1, y1, z1, hCC⟩, st⟩ := callSS A.1 A.2.2.2.2.1 (y := y) A.2.2.2.1 (mvT A.hZ w1) (mvT A.hZ w2) (mvT A.hZ w3) (mvT A.hZ w4) hy hK (g := mkF m pc L (argsL.reverse ++ rest)) rfl (hml.trans A.2.2.2.2.2.2.1.symm) (argsL := argsL) (rest := rest) (lenOf pd hal) rfl (by show 2 * 0 + _ ≤ _; omega) (hb A.2.2.2.2.2.1 hd) (fun _ _ => ⟨rfl, A.2.1, hc, hs⟩)
  dsimp only [Pt.U, Pt.locs, Pt.cells, Pt.slots] at X' l1 y1 z1 st N K q hS2 hg2 hCC
  subst l1 y1 z1
  obtain ⟨⟨k0, hS, hk⟩, hC⟩ := A.wide
  obtain ⟨X2, hS3, hZ3, ho3⟩ := rebS hS (A.2.1 ▸ hk) X' hS2 hg2 A.hZ A.2.2.2.1
  exact (k v T'.vm T' T'.heap L' ⟨X2, rfl, hZ3, ho3, A.2.2.2.2.1, A.2.2.2.2.2.1, A.2.2.2.2.2.2.1, A.2.2.2.2.2.2.2.1.app N, A.old.keep K hn, Or.inr ⟨rfl, ⟨_, hS3, Nat.le_refl _⟩, hC.trans hCC⟩⟩ K hCC q).gos st
theorem f_callIW (A : WS p l e R s m args below meth c Z EL n0 own code ml true vm T h locs cells slots) {i : Nat} {y : MethodName} {bytes : ByteArray} {maxL : Nat} {a : Addr} {wr : List Addr} {Q : Option Value → Heap → Prop} {kc ks : Nat} (hd : decode code pc = .ok (.invokespecial i, 3)) (hp : pc + 3 = pc') (hy1 : y.name = "<init>") (w1 : (Cond.methodLink own i y).before a0 Z = true) (w2 : (Cond.instanceMethod y).before a0 Z = true) (w4 : (Cond.code y bytes maxL none).before a0 Z = true) (hy : y.cls ≠ "java/lang/invoke/MethodHandle" ∧ y.cls ≠ "java/lang/invoke/VarHandle")
    {ps : List FieldType} {r : Option FieldType} (pd : parseMethodDescriptor y.desc = some ⟨ps, r⟩) (argsL rest : List Value) (hal : argsL.length = ps.length) (hS : S = argsL.reverse ++ .ref a :: rest) (hml : L.size = ml) (W : Nat) (hW : (rest.map fun v => v.category).sum ≤ W) (hK : BkS l R p e below (s.setVm vm) args y 3 W (.ref a :: argsL).toArray h n0 wr Q kc ks Z EL vm) (hc : cells + kc ≤ R.cells) (hs : slots + ks ≤ R.slots) (hn : ∀ x ∈ wr, n0 ≤ x)
    (k : ∀ (v : Option Value) (vm' : Vm) (T' : State) (h' : Heap) (L' : List Loc), WS p l e R s m args below meth c Z EL n0 own code ml true vm' T' h' (locs ++ L') (cells + kc) (slots + ks) → Keep h h' wr → CHr Z EL vm h vm' h' → Q v h' → Wp p e below P T' (mkF m pc' L (v.toList ++ rest))) : Wp p e below P T (mkF m pc L S) := by
  subst hp hS
  obtain ⟨v, _, ⟨T', L1, k1, n1⟩, -, X', hS2, hg2, ⟨L', ⟨N, K, q⟩, l1, y1, z1, hCC⟩, st⟩ := A.1.specialBackS A.2.2.2.2.1 (y := y) hy1 A.2.2.2.1 (mvT A.hZ w1) (mvT A.hZ w2) (mvT A.hZ w4) hy hK (g := mkF m pc L (argsL.reverse ++ .ref a :: rest)) rfl (hml.trans A.2.2.2.2.2.2.1.symm) (Steps.refl _) (a := a) (argsL := argsL) (rest := rest) (lenOf pd hal) rfl (by show 2 * 0 + _ ≤ _; omega) (hb A.2.2.2.2.2.1 hd) (fun _ _ => ⟨rfl, A.2.1, hc, hs⟩)
  dsimp only [Pt.U, Pt.locs, Pt.cells, Pt.slots] at X' l1 y1 z1 st N K q hS2 hg2 hCC
  subst l1 y1 z1
  obtain ⟨⟨k0, hS, hk⟩, hC⟩ := A.wide
  obtain ⟨X2, hS3, hZ3, ho3⟩ := rebS hS (A.2.1 ▸ hk) X' hS2 hg2 A.hZ A.2.2.2.1
  exact (k v T'.vm T' T'.heap L' ⟨X2, rfl, hZ3, ho3, A.2.2.2.2.1, A.2.2.2.2.2.1, A.2.2.2.2.2.2.1, A.2.2.2.2.2.2.2.1.app N, A.old.keep K hn, Or.inr ⟨rfl, ⟨_, hS3, Nat.le_refl _⟩, hC.trans hCC⟩⟩ K hCC q).gos st
theorem f_callVW (A : WS p l e R s m args below meth c Z EL n0 own code ml true vm T h locs cells slots) {i : Nat} {y z : MethodName} {C : String} {a : Addr} {wr : List Addr} {Q : Option Value → Heap → Prop} {kc ks : Nat} (hd : decode code pc = .ok (.invokevirtual i, 3)) (hp : pc + 3 = pc') (w1 : (Cond.methodLink own i y).before a0 Z = true) (w2 : (Cond.declares y).before a0 Z = true) (hnf : NotFace (s.setVm vm) y) (w3 : (Cond.selects C y z).before a0 Z = true) (w4 : (Cond.instanceMethod z).before a0 Z = true) (hy : y.cls ≠ "java/lang/invoke/MethodHandle" ∧ y.cls ≠ "java/lang/invoke/VarHandle") (E : Exa Z h a C)
    {ps : List FieldType} {r : Option FieldType} (pd : parseMethodDescriptor y.desc = some ⟨ps, r⟩) (argsL rest : List Value) (hal : argsL.length = ps.length) (hS : S = argsL.reverse ++ .ref a :: rest) (hml : L.size = ml) (W : Nat) (hW : (rest.map fun v => v.category).sum ≤ W) (hK : BkS l R p e below (s.setVm vm) args z 3 W (.ref a :: argsL).toArray h n0 wr Q kc ks Z EL vm) (hc : cells + kc ≤ R.cells) (hs : slots + ks ≤ R.slots) (hn : ∀ x ∈ wr, n0 ≤ x)
    (k : ∀ (v : Option Value) (vm' : Vm) (T' : State) (h' : Heap) (L' : List Loc), WS p l e R s m args below meth c Z EL n0 own code ml true vm' T' h' (locs ++ L') (cells + kc) (slots + ks) → Keep h h' wr → CHr Z EL vm h vm' h' → Q v h' → Wp p e below P T' (mkF m pc' L (v.toList ++ rest))) : Wp p e below P T (mkF m pc L S) := by
  subst hp hS
  obtain ⟨cq, kq, qa, qb, qc⟩ := isOf A.hZ A.2.1 E
  obtain ⟨v, _, ⟨T', L1, k1, n1⟩, -, X', hS2, hg2, ⟨L', ⟨N, K, q⟩, l1, y1, z1, hCC⟩, st⟩ := A.1.virtualBackS A.2.2.2.2.1 (y := y) (z := z) A.2.2.2.1 (mvT A.hZ w1) (mvT A.hZ w2) hnf (mvT A.hZ w3) (mvT A.hZ w4) hy hK qa qc (g := mkF m pc L (argsL.reverse ++ .ref a :: rest)) rfl (hml.trans A.2.2.2.2.2.2.1.symm) (Steps.refl _) (argsL := argsL) (rest := rest) (lenOf pd hal) rfl (by show 2 * 0 + _ ≤ _; omega) (hb A.2.2.2.2.2.1 hd) (fun _ _ => ⟨rfl, A.2.1, hc, hs⟩)
  dsimp only [Pt.U, Pt.locs, Pt.cells, Pt.slots] at X' l1 y1 z1 st N K q hS2 hg2 hCC
  subst l1 y1 z1
  obtain ⟨⟨k0, hS, hk⟩, hC⟩ := A.wide
  obtain ⟨X2, hS3, hZ3, ho3⟩ := rebS hS (A.2.1 ▸ hk) X' hS2 hg2 A.hZ A.2.2.2.1
  exact (k v T'.vm T' T'.heap L' ⟨X2, rfl, hZ3, ho3, A.2.2.2.2.1, A.2.2.2.2.2.1, A.2.2.2.2.2.2.1, A.2.2.2.2.2.2.2.1.app N, A.old.keep K hn, Or.inr ⟨rfl, ⟨_, hS3, Nat.le_refl _⟩, hC.trans hCC⟩⟩ K hCC q).gos st
/-- the payer, of a contract that may intern -/
theorem CW.pay {y : MethodName} {bytes : ByteArray} {maxL : Nat} {ret : Option FieldType} {rm : Room} {as' : Array Value} {wr SL : List Addr} {Q : Option Value → Heap → Prop} {len W : Nat} (A : WS p l e R s m args below meth c Z EL n0 own code ml true vm T h locs cells slots) (hEL : EW Z a0 EL) (hM : CW l y bytes maxL ret [] rm Z EL SL n0 h as' wr Q) (wc : (Cond.code y bytes maxL ret).before a0 Z = true) (wz : (Cond.initialized y.cls).before a0 Z = true) (hf : rm.frames + 1 ≤ R.frames) (hl : W + (maxL + 11) + rm.locals ≤ R.locals) (hSL : ∀ x ∈ SL, x < h.size ∧ Safe Z EL vm h x) :
    BkS l R p e below (s.setVm vm) args y len W as' h n0 wr Q rm.cells rm.slots Z EL vm :=
  have H := A.wide.2.1
  BackS.of_freeW (bytes := bytes) (maxL := maxL) (ret := ret) (E := fun _ first o t L k n => k = rm.cells ∧ n = rm.slots ∧ (∃ v, o = .returned v ∧ (Fr n0 L ∧ Keep h t.heap wr ∧ Q v t.heap)) ∧ CHr Z EL first.vm first.heap t.vm t.heap) hM hf hl
    (fun m meth c B a Y hp => have hU : Z.Warmed39 B.U.vm := wtrans (s := s.setVm vm) A.hZ Y.warmed
      ⟨by show (Cond.and _ .tt).before a B.U = true; rw [Cond.before_and, mv hU wc]; rfl, mv hU wc, mv hU wz, hp.2.2.1, hp.2.2.2⟩)
    (fun m meth c B a g mk Y hp => ⟨hp.1, wtrans (s := s.setVm vm) A.hZ Y.warmed, hp.2.1, (CHv.at Y A.hZ hEL H).1, fun x hx => (CHv.at Y A.hZ hEL H).safe (hSL x hx).1 (hSL x hx).2⟩) (fun _ _ _ _ _ _ _ _ _ => trivial)
    (fun _ _ _ _ ⟨v, L, h1, h2, h3, h4⟩ => ⟨L, _, _, h4, rfl, rfl, ⟨v, h1, h2⟩, h3⟩)
    (fun m meth c B a g mk v t L k n Y hp _ _ ⟨e1, e2, ⟨v', e3, e4⟩, e5⟩ => by
      cases e3; subst e1 e2
      refine ⟨L, e4, rfl, rfl, rfl, (CHv.at Y A.hZ hEL H).trans ?_⟩
      rw [← hp.2.1]; exact e5)
end OwnKit
end Jvm.Pilot.@@N@@
/- laws to paste: Road.backV, Road.lenW, Road.chN, Road.eqW, Road.empW, Road.codOf (cut by pick.py; bodies as the Statement names them) -/
namespace Jvm.Pilot.@@N@@
namespace StrChars
open Jvm Sem ClassFile Op Lib Jvm.Stand Jvm.Free.XT Jvm.Free.ALB Jvm.Free.JM Jvm.Free
open Jvm.Lib.Cold (StaticIs)
/-- a char array whose places are chars -/
def Ch (a : Addr) (A : Cell) (U : State) : Prop := Arr .char a A U ∧ Typed .char A
theorem Ch.mv {a : Addr} {A : Cell} {U U' : State} (h : Ch a A U) (hal : U.vm.Alike U'.vm) (hh : U'.heap = U.heap) : Ch a A U' := ⟨h.1.mv hal hh, h.2⟩
theorem Ch.keep {a : Addr} {A : Cell} {U U' : State} (h : Ch a A U) (hal : U.vm.Alike U'.vm) (hk : U'.heap[a]? = some A) : Ch a A U' := ⟨h.1.keep hal hk, h.2⟩
/-- what place i of a char[]'s cell holds -/
def cv (A : Cell) (i : Nat) : Int32 := match A.slots[i]? with | some (.int x) => x | _ => 0
theorem Ch.get {a : Addr} {A : Cell} {U : State} (h : Ch a A U) {i : Nat} (hi : i < A.slots.size) : A.slots[i]? = some (.int (cv A i)) := by
  have e := Array.getElem?_eq_getElem hi
  have f := h.2 i _ e
  unfold cv; rw [e]
  generalize A.slots[i] = v at f
  cases v <;> simp [fits] at f ⊢
/-- the byte that i2b leaves of a char -/
def lo8 (x : Int32) : Int32 := x.toInt8.toInt32
theorem fits_lo8 (y : Int32) : fits .byte (.int (lo8 y)) = true := by
  have h1 := y.toInt8.le_toInt
  have h2 := y.toInt8.toInt_lt
  simp only [lo8, fits, Bool.and_eq_true, decide_eq_true_eq, Int32.le_iff_toInt_le, Int8.toInt_toInt32, show (-128 : Int32).toInt = -128 from by decide, show (127 : Int32).toInt = 127 from by decide]
  omega
/-- A' is A but that each place j of lo .. hi - 1 holds f j -/
def Laid (A A' : Cell) (lo hi : Nat) (f : Nat → Value) : Prop := A'.cls = A.cls ∧ A'.vm = A.vm ∧ A'.slots.size = A.slots.size ∧ ∀ i, A'.slots[i]? = if lo ≤ i ∧ i < hi then some (f i) else A.slots[i]?
theorem Laid.zero (A : Cell) (lo : Nat) (f : Nat → Value) : Laid A A lo (lo + 0) f := ⟨rfl, rfl, rfl, fun i => by rw [if_neg (by omega)]⟩
theorem Laid.step {A Ak : Cell} {lo k : Nat} {f : Nat → Value} {v : Value} (h : Laid A Ak lo k f) (hlo : lo ≤ k) (hk : k < Ak.slots.size) (hv : v = f k) : Laid A (Ak.setSlot k v) lo (k + 1) f := by
  refine ⟨h.1, h.2.1, by simpa [Cell.setSlot] using h.2.2.1, fun i => ?_⟩
  by_cases e : k = i
  · subst e; rw [Cell.slots_setSlot_self v hk, if_pos (by omega), hv]
  · rw [Cell.slots_setSlot_ne v e, h.2.2.2 i]
    by_cases q : lo ≤ i ∧ i < k
    · rw [if_pos q, if_pos (by omega)]
    · rw [if_neg q, if_neg (by omega)]
def U16 : String := "java/lang/StringUTF16"
namespace Cmp5
def yN : MethodName := ⟨"java/lang/StringUTF16", "compress", "([CI[BII)I"⟩
abbrev yB : ByteArray := jdk_52_method_21_code
theorem d0 : decode yB 0 = .ok (.iconst 0, 1) := by decide +kernel
theorem d1 : decode yB 1 = .ok (.istore 5, 2) := by decide +kernel
theorem d3 : decode yB 3 = .ok (.iload 5, 2) := by decide +kernel
theorem d5 : decode yB 5 = .ok (.iload 4, 2) := by decide +kernel
theorem d7 : decode yB 7 = .ok (.if_icmp (.ge) 37, 3) := by decide +kernel
theorem d10 : decode yB 10 = .ok (.aload_n 0, 1) := by decide +kernel
theorem d11 : decode yB 11 = .ok (.iload_n 1, 1) := by decide +kernel
theorem d12 : decode yB 12 = .ok (.caload, 1) := by decide +kernel
theorem d13 : decode yB 13 = .ok (.istore 6, 2) := by decide +kernel
theorem d15 : decode yB 15 = .ok (.iload 6, 2) := by decide +kernel
theorem d17 : decode yB 17 = .ok (.sipush 255, 3) := by decide +kernel
theorem d20 : decode yB 20 = .ok (.if_icmp (.le) 6, 3) := by decide +kernel
theorem d26 : decode yB 26 = .ok (.aload_n 2, 1) := by decide +kernel
theorem d27 : decode yB 27 = .ok (.iload_n 3, 1) := by decide +kernel
theorem d28 : decode yB 28 = .ok (.iload 6, 2) := by decide +kernel
theorem d30 : decode yB 30 = .ok (.i2b, 1) := by decide +kernel
theorem d31 : decode yB 31 = .ok (.bastore, 1) := by decide +kernel
theorem d32 : decode yB 32 = .ok (.iinc 1 1, 3) := by decide +kernel
theorem d35 : decode yB 35 = .ok (.iinc 3 1, 3) := by decide +kernel
theorem d38 : decode yB 38 = .ok (.iinc 5 1, 3) := by decide +kernel
theorem d41 : decode yB 41 = .ok (.goto (-38), 3) := by decide +kernel
theorem d44 : decode yB 44 = .ok (.iload 4, 2) := by decide +kernel
theorem d46 : decode yB 46 = .ok (.ireturn, 1) := by decide +kernel
def site : List Cond := []
def tab : Cond := tabOf yN yB 7 (some .int) site
def P (b : Addr) (A : Cell) (d : Addr) (B : Cell) (o q len : Nat) (args : Array Value) (s : State) : Prop := args = #[.ref b, .int (Int32.ofNat o), .ref d, .int (Int32.ofNat q), .int (Int32.ofNat len)] ∧ Ch b A s ∧ Arr .byte d B s ∧ b ≠ d ∧ o + len ≤ A.slots.size ∧ q + len ≤ B.slots.size ∧ ∀ i, i < len → ¬ 255 < cv A (o + i)
def E (b : Addr) (A : Cell) (d : Addr) (B : Cell) (o q len : Nat) (r : Option Value) (s u : State) : Prop := r = some (.int (Int32.ofNat len)) ∧ ∃ B', Put d B' s u ∧ Laid B B' q (q + len) (fun j => Value.int (lo8 (cv A (o + (j - q)))))
/-- no char of the range above 255: len; the places written hold each char's low byte -/
theorem law (l : Launch) (b : Addr) (A : Cell) (d : Addr) (B : Cell) (o q len : Nat) : Law l yN 5 5 0 0 yB 7 (some .int) site (P b A d B o q len) (E b A d B o q len) (copyLocs d q len) 0 0 := by
  refine Law.of_walk (plainFor_of_name (by decide +kernel)) (by decide +kernel) (by decide +kernel) (by decide) (fun _ _ h => by rw [h.1]; rfl) (fun _ U U' hal hh h => ⟨h.1, h.2.1.mv hal hh, h.2.2.1.mv hal hh, h.2.2.2⟩) (fun r U U' V V' h1 hal h2 h => ⟨h.1, h.2.elim fun B' q => ⟨B', q.1.mv h1 h2, q.2⟩⟩) ?_
  intro p e s m args below meth c s₁ X0 hexec hbytes hml hret hlk hnm hown hh0 W hP
  obtain ⟨rfl, hA, hB, hne, l1, l2, hp⟩ := hP
  have c1 : Steps p.tables e below (s₁.setTop (entryFrame m #[.ref b, .int (Int32.ofNat o), .ref d, .int (Int32.ofNat q), .int (Int32.ofNat len)] 7)) (s₁.setTop (mkF m 0 #[.val (.ref b), .val (.int (Int32.ofNat o)), .val (.ref d), .val (.int (Int32.ofNat q)), .val (.int (Int32.ofNat len)), .unset, .unset] [])) := entry rfl
  have hA0 := hA.1.mv X0.warmed.alike hh0
  have hB0 := hB.mv X0.warmed.alike hh0
  have a31 := hA.1.2.2.2
  have c2 : Steps p.tables e below (s₁.setTop (entryFrame m #[.ref b, .int (Int32.ofNat o), .ref d, .int (Int32.ofNat q), .int (Int32.ofNat len)] 7)) (s₁.setTop (mkF m 3 #[.val (.ref b), .val (.int (Int32.ofNat o)), .val (.ref d), .val (.int (Int32.ofNat q)), .val (.int (Int32.ofNat len)), .val (.int 0), .unset] [])) := c1.trans (by
    refine iconstV X0.here hexec rfl 0 (hb hbytes d0) (by decide) ?_
    refine XS.istore X0.here hexec rfl (hb hbytes d1) rfl rfl ?_
    exact Steps.refl _)
  have loop : ∀ (r i : Nat), i + r = len → ∀ (z : Slot), (z = .unset ∨ ∃ w, z = .val w ∧ w.category = 1) → ∀ (Tl : State) (Bk : Cell), Stand p l e { frames := 0, locals := 0, cells := 0, slots := 0 } s m #[.ref b, .int (Int32.ofNat o), .ref d, .int (Int32.ofNat q), .int (Int32.ofNat len)] below meth c Tl ([] ++ copyLocs d q i) 0 0 → Put d Bk s₁ Tl → Laid B Bk q (q + i) (fun j => Value.int (lo8 (cv A (o + (j - q))))) →
      Steps p.tables e below (s₁.setTop (entryFrame m #[.ref b, .int (Int32.ofNat o), .ref d, .int (Int32.ofNat q), .int (Int32.ofNat len)] 7)) (Tl.setTop (mkF m 3 #[.val (.ref b), .val (.int (Int32.ofNat (o + i))), .val (.ref d), .val (.int (Int32.ofNat (q + i))), .val (.int (Int32.ofNat len)), .val (.int (Int32.ofNat i)), z] [])) → ∃ (T' : State) (B' : Cell) (z' : Slot), Stand p l e { frames := 0, locals := 0, cells := 0, slots := 0 } s m #[.ref b, .int (Int32.ofNat o), .ref d, .int (Int32.ofNat q), .int (Int32.ofNat len)] below meth c T' ([] ++ copyLocs d q len) 0 0 ∧ Put d B' s₁ T' ∧ Laid B B' q (q + len) (fun j => Value.int (lo8 (cv A (o + (j - q))))) ∧
      Steps p.tables e below (s₁.setTop (entryFrame m #[.ref b, .int (Int32.ofNat o), .ref d, .int (Int32.ofNat q), .int (Int32.ofNat len)] 7)) (T'.setTop (mkF m 3 #[.val (.ref b), .val (.int (Int32.ofNat (o + len))), .val (.ref d), .val (.int (Int32.ofNat (q + len))), .val (.int (Int32.ofNat len)), .val (.int (Int32.ofNat len)), z'] [])) := by
    intro r
    induction r with
    | zero =>
      intro i hi z hz Tl Bk Xl pl fl cl
      have hil : i = len := by omega
      rw [hil] at Xl fl cl
      exact ⟨Tl, Bk, z, Xl, pl, fl, cl⟩
    | succ r ih =>
      intro i hi z hz Tl Bk Xl pl fl cl
      have all := X0.warmed.alike.symm.trans Xl.warmed.alike
      have hAl := hA0.keep all (pl.other hne hA0.1)
      have hBk := hB0.like all pl.1 fl.1 fl.2.1 fl.2.2.1
      have hlt : q + i < Bk.slots.size := by rw [fl.2.2.1]; omega
      have c3 : Steps p.tables e below (s₁.setTop (entryFrame m #[.ref b, .int (Int32.ofNat o), .ref d, .int (Int32.ofNat q), .int (Int32.ofNat len)] 7)) (Tl.setTop (mkF m 12 #[.val (.ref b), .val (.int (Int32.ofNat (o + i))), .val (.ref d), .val (.int (Int32.ofNat (q + i))), .val (.int (Int32.ofNat len)), .val (.int (Int32.ofNat i)), z] [.int (Int32.ofNat (o + i)), .ref b])) := cl.trans (by
        refine XS.iload Xl.here hexec rfl (hb hbytes d3) rfl ?_
        refine XS.iload Xl.here hexec rfl (hb hbytes d5) rfl ?_
        refine XS.icmpNo Xl.here hexec rfl (hb hbytes d7) rfl (ii_ge_f (lt32 (by omega) (by omega))) ?_
        refine XS.aloadN Xl.here hexec rfl (hb hbytes d10) rfl rfl ?_
        refine XS.iloadN Xl.here hexec rfl (hb hbytes d11) rfl ?_
        exact Steps.refl _)
      have c4 : Steps p.tables e below (s₁.setTop (entryFrame m #[.ref b, .int (Int32.ofNat o), .ref d, .int (Int32.ofNat q), .int (Int32.ofNat len)] 7)) (Tl.setTop (mkF m 13 #[.val (.ref b), .val (.int (Int32.ofNat (o + i))), .val (.ref d), .val (.int (Int32.ofNat (q + i))), .val (.int (Int32.ofNat len)), .val (.int (Int32.ofNat i)), z] [.int (cv A (o + i))])) := c3.trans (by
        refine Xl.aget hexec hAl rfl (hA.get (i := o + i) (by omega)) rfl rfl (hb hbytes d12) ?_
        exact Steps.refl _)
      have c5 : Steps p.tables e below (s₁.setTop (entryFrame m #[.ref b, .int (Int32.ofNat o), .ref d, .int (Int32.ofNat q), .int (Int32.ofNat len)] 7)) (Tl.setTop (mkF m 15 #[.val (.ref b), .val (.int (Int32.ofNat (o + i))), .val (.ref d), .val (.int (Int32.ofNat (q + i))), .val (.int (Int32.ofNat len)), .val (.int (Int32.ofNat i)), .val (.int (cv A (o + i)))] [])) := c4.trans (by
        refine XS.istoreS Xl.here hexec rfl (hb hbytes d13) rfl rfl hz ?_
        exact Steps.refl _)
      have c6 : Steps p.tables e below (s₁.setTop (entryFrame m #[.ref b, .int (Int32.ofNat o), .ref d, .int (Int32.ofNat q), .int (Int32.ofNat len)] 7)) (Tl.setTop (mkF m 31 #[.val (.ref b), .val (.int (Int32.ofNat (o + i))), .val (.ref d), .val (.int (Int32.ofNat (q + i))), .val (.int (Int32.ofNat len)), .val (.int (Int32.ofNat i)), .val (.int (cv A (o + i)))] [.int (lo8 (cv A (o + i))), .int (Int32.ofNat (q + i)), .ref d])) := c5.trans (by
        refine XS.iload Xl.here hexec rfl (hb hbytes d15) rfl ?_
        refine sipushV Xl.here hexec rfl 255 (hb hbytes d17) (by decide) ?_
        refine XS.icmpYes Xl.here hexec rfl (pc0 := 20) rfl (hb hbytes d20) rfl (ii_le_t (hp i (by omega))) (by decide) rfl ?_
        refine XS.aloadN Xl.here hexec rfl (hb hbytes d26) rfl rfl ?_
        refine XS.iloadN Xl.here hexec rfl (hb hbytes d27) rfl ?_
        refine XS.iload Xl.here hexec rfl (hb hbytes d28) rfl ?_
        refine i2b Xl.here hexec rfl (hb hbytes d30) rfl ?_
        exact Steps.refl _)
      obtain ⟨T7, X7, p7, st7⟩ := Xl.aput hexec hBk rfl hlt rfl (fits_lo8 (cv A (o + i))) (g := (mkF m 31 #[.val (.ref b), .val (.int (Int32.ofNat (o + i))), .val (.ref d), .val (.int (Int32.ofNat (q + i))), .val (.int (Int32.ofNat len)), .val (.int (Int32.ofNat i)), .val (.int (cv A (o + i)))] [.int (lo8 (cv A (o + i))), .int (Int32.ofNat (q + i)), .ref d])) rfl (rest := []) rfl (hb hbytes d31)
      have c8 : Steps p.tables e below (s₁.setTop (entryFrame m #[.ref b, .int (Int32.ofNat o), .ref d, .int (Int32.ofNat q), .int (Int32.ofNat len)] 7)) (T7.setTop (mkF m 32 #[.val (.ref b), .val (.int (Int32.ofNat (o + i))), .val (.ref d), .val (.int (Int32.ofNat (q + i))), .val (.int (Int32.ofNat len)), .val (.int (Int32.ofNat i)), .val (.int (cv A (o + i)))] [])) := c6.trans (st7 _ (Steps.refl _))
      have c9 : Steps p.tables e below (s₁.setTop (entryFrame m #[.ref b, .int (Int32.ofNat o), .ref d, .int (Int32.ofNat q), .int (Int32.ofNat len)] 7)) (T7.setTop (mkF m 3 #[.val (.ref b), .val (.int (Int32.ofNat (o + i) + 1)), .val (.ref d), .val (.int (Int32.ofNat (q + i) + 1)), .val (.int (Int32.ofNat len)), .val (.int (Int32.ofNat i + 1)), .val (.int (cv A (o + i)))] [])) := c8.trans (by
        refine iincV X7.here hexec rfl 1 (hb hbytes d32) (by decide) rfl rfl ?_
        refine iincV X7.here hexec rfl 1 (hb hbytes d35) (by decide) rfl rfl ?_
        refine iincV X7.here hexec rfl 1 (hb hbytes d38) (by decide) rfl rfl ?_
        refine XS.goto X7.here hexec rfl (pc0 := 41) rfl (hb hbytes d41) (by decide) rfl ?_
        exact Steps.refl _)
      have c10 : Steps p.tables e below (s₁.setTop (entryFrame m #[.ref b, .int (Int32.ofNat o), .ref d, .int (Int32.ofNat q), .int (Int32.ofNat len)] 7)) (T7.setTop (mkF m 3 #[.val (.ref b), .val (.int (Int32.ofNat (o + (i + 1)))), .val (.ref d), .val (.int (Int32.ofNat (q + (i + 1)))), .val (.int (Int32.ofNat len)), .val (.int (Int32.ofNat (i + 1))), .val (.int (cv A (o + i)))] [])) := by
        have := c9
        rw [succ32, succ32, succ32] at this
        exact this
      exact ih (i + 1) (by omega) _ (Or.inr ⟨_, rfl, rfl⟩) T7 _ (by rw [copyLocs_step, ← List.append_assoc]; exact X7) (pl.trans p7) (fl.step (by omega) hlt (by simp)) c10
  obtain ⟨T9, B9, z9, X9, p9, f9, g9⟩ := loop len 0 (by omega) .unset (Or.inl rfl) s₁ B (by simpa [copyLocs] using X0) ⟨hB0.1, fun _ _ => rfl, rfl⟩ (Laid.zero _ _ _) c2
  have c11 : Steps p.tables e below (s₁.setTop (entryFrame m #[.ref b, .int (Int32.ofNat o), .ref d, .int (Int32.ofNat q), .int (Int32.ofNat len)] 7)) (T9.setTop (mkF m 46 #[.val (.ref b), .val (.int (Int32.ofNat (o + len))), .val (.ref d), .val (.int (Int32.ofNat (q + len))), .val (.int (Int32.ofNat len)), .val (.int (Int32.ofNat len)), z9] [.int (Int32.ofNat len)])) := g9.trans (by
    refine XS.iload X9.here hexec rfl (hb hbytes d3) rfl ?_
    refine XS.iload X9.here hexec rfl (hb hbytes d5) rfl ?_
    refine XS.icmpYes X9.here hexec rfl (pc0 := 7) rfl (hb hbytes d7) rfl (ii_ge_t (nlt32 (by omega) (Nat.le_refl _))) (by decide) rfl ?_
    refine XS.iload X9.here hexec rfl (hb hbytes d44) rfl ?_
    exact Steps.refl _)
  exact ⟨T9, some (.int (Int32.ofNat len)), _, _, _, X9, by simp, rfl, rfl, (fun h => by cases h), ⟨rfl, B9, p9.from hh0, f9⟩, fun fs hl => c11.trans (X9.ireturnOut hexec hret rfl (Or.inl rfl) (hb hbytes d46) hl)⟩
end Cmp5
namespace Cmp3
def yN : MethodName := ⟨"java/lang/StringUTF16", "compress", "([CII)[B"⟩
abbrev yB : ByteArray := jdk_52_method_16_code
theorem d0 : decode yB 0 = .ok (.iload_n 2, 1) := by decide +kernel
theorem d1 : decode yB 1 = .ok (.newarray .byte, 2) := by decide +kernel
theorem d3 : decode yB 3 = .ok (.astore_n 3, 1) := by decide +kernel
theorem d4 : decode yB 4 = .ok (.aload_n 0, 1) := by decide +kernel
theorem d5 : decode yB 5 = .ok (.iload_n 1, 1) := by decide +kernel
theorem d6 : decode yB 6 = .ok (.aload_n 3, 1) := by decide +kernel
theorem d7 : decode yB 7 = .ok (.iconst 0, 1) := by decide +kernel
theorem d8 : decode yB 8 = .ok (.iload_n 2, 1) := by decide +kernel
theorem d9 : decode yB 9 = .ok (.invokestatic 115, 3) := by decide +kernel
theorem d12 : decode yB 12 = .ok (.istore 4, 2) := by decide +kernel
theorem d14 : decode yB 14 = .ok (.iload 4, 2) := by decide +kernel
theorem d16 : decode yB 16 = .ok (.iload_n 2, 1) := by decide +kernel
theorem d17 : decode yB 17 = .ok (.if_icmp (.eq) 40, 3) := by decide +kernel
theorem d57 : decode yB 57 = .ok (.aload_n 3, 1) := by decide +kernel
theorem d58 : decode yB 58 = .ok (.areturn, 1) := by decide +kernel
def site : List Cond := [.arrayClass .byte, Cmp5.tab] ++ staticW U16 115 Cmp5.yN
def tab : Cond := tabOf yN yB 6 (some (.array .byte)) site
def P (b : Addr) (A : Cell) (o len : Nat) (args : Array Value) (s : State) : Prop := args = #[.ref b, .int (Int32.ofNat o), .int (Int32.ofNat len)] ∧ Ch b A s ∧ o + len ≤ A.slots.size ∧ len ≤ 536870912 ∧ ∀ i, i < len → ¬ 255 < cv A (o + i)
def E (b : Addr) (A : Cell) (o len : Nat) (r : Option Value) (s u : State) : Prop := NewArr .byte "[B" len (fun j => .int (lo8 (cv A (o + j)))) r s u ∧ u.heap.size = s.heap.size + 1
/-- no char of the range above 255: a new byte[] of their low bytes -/
theorem law (l : Launch) (b : Addr) (A : Cell) (o len : Nat) : Law l yN 3 3 1 18 yB 6 (some (.array .byte)) site (P b A o len) (E b A o len) [] 1 len := by
  refine Law.of_walk (plainFor_of_name (by decide +kernel)) (by decide +kernel) (by decide +kernel) (by decide) (fun _ _ h => by rw [h.1]; rfl) (fun _ U U' hal hh h => ⟨h.1, h.2.1.mv hal hh, h.2.2⟩) (fun r U U' V V' h1 hal h2 h => ⟨NewArr.mv r U U' V V' h1 hal h2 h.1, by rw [h1, h2]; exact h.2⟩) ?_
  intro p e s m args below meth c s₁ X0 hexec hbytes hml hret hlk hnm hown hh0 W hP
  obtain ⟨rfl, hA, l1, l2, hp⟩ := hP
  have a31 := hA.1.2.2.2
  have c1 : Steps p.tables e below (s₁.setTop (entryFrame m #[.ref b, .int (Int32.ofNat o), .int (Int32.ofNat len)] 6)) (s₁.setTop (mkF m 0 #[.val (.ref b), .val (.int (Int32.ofNat o)), .val (.int (Int32.ofNat len)), .unset, .unset, .unset] [])) := entry rfl
  have c2 : Steps p.tables e below (s₁.setTop (entryFrame m #[.ref b, .int (Int32.ofNat o), .int (Int32.ofNat len)] 6)) (s₁.setTop (mkF m 1 #[.val (.ref b), .val (.int (Int32.ofNat o)), .val (.int (Int32.ofNat len)), .unset, .unset, .unset] [.int (Int32.ofNat len)])) := c1.trans (by
    refine XS.iloadN X0.here hexec rfl (hb hbytes d0) rfl ?_
    exact Steps.refl _)
  obtain ⟨T3, B3, X3, ba3, bs3, bv3, bh3, bf3, st3⟩ := X0.anew hexec (atype := .byte) (wk W (.arrayClass .byte)) rfl (by show len * 1 ≤ _; omega) (by omega) (g := (mkF m 1 #[.val (.ref b), .val (.int (Int32.ofNat o)), .val (.int (Int32.ofNat len)), .unset, .unset, .unset] [.int (Int32.ofNat len)])) rfl (hb hbytes d1) (rest := []) rfl (Nat.le_refl _) (by show 0 + len ≤ len; omega)
  rw [hh0] at ba3 st3
  have kp3 : XT.Kept s T3 := (XT.Kept.of_eq hh0).push bh3
  have hA3 := hA.keep X3.warmed.alike (kp3 _ _ hA.1.1)
  have hne : b ≠ s.heap.size := hA.1.ne
  have c4 : Steps p.tables e below (s₁.setTop (entryFrame m #[.ref b, .int (Int32.ofNat o), .int (Int32.ofNat len)] 6)) (T3.setTop (mkF m 3 #[.val (.ref b), .val (.int (Int32.ofNat o)), .val (.int (Int32.ofNat len)), .unset, .unset, .unset] [.ref s.heap.size])) := c2.trans (st3 _ (Steps.refl _))
  have c5 : Steps p.tables e below (s₁.setTop (entryFrame m #[.ref b, .int (Int32.ofNat o), .int (Int32.ofNat len)] 6)) (T3.setTop (mkF m 9 #[.val (.ref b), .val (.int (Int32.ofNat o)), .val (.int (Int32.ofNat len)), .val (.ref s.heap.size), .unset, .unset] [.int (Int32.ofNat len), .int 0, .ref s.heap.size, .int (Int32.ofNat o), .ref b])) := c4.trans (by
    refine XS.astoreN X3.here hexec rfl (hb hbytes d3) rfl rfl rfl ?_
    refine XS.aloadN X3.here hexec rfl (hb hbytes d4) rfl rfl ?_
    refine XS.iloadN X3.here hexec rfl (hb hbytes d5) rfl ?_
    refine XS.aloadN X3.here hexec rfl (hb hbytes d6) rfl rfl ?_
    refine iconstV X3.here hexec rfl 0 (hb hbytes d7) (by decide) ?_
    refine XS.iloadN X3.here hexec rfl (hb hbytes d8) rfl ?_
    exact Steps.refl _)
  obtain ⟨v6, T6, X6, E6, g6⟩ := X3.callS hexec (Cmp5.law l b A s.heap.size B3 o 0 len) hown (wks W (staticW U16 115 Cmp5.yN)) (wk W Cmp5.tab) (W := 0) (Nat.le_of_ble_eq_true rfl) (Nat.le_of_ble_eq_true rfl) (Nat.le_refl _) (by show 0 + len + 0 ≤ len; omega) (g := (mkF m 9 #[.val (.ref b), .val (.int (Int32.ofNat o)), .val (.int (Int32.ofNat len)), .val (.ref s.heap.size), .unset, .unset] [.int (Int32.ofNat len), .int (Int32.ofNat 0), .ref s.heap.size, .int (Int32.ofNat o), .ref b])) rfl (by rw [hml]; rfl) c5 (argsL := [.ref b, .int (Int32.ofNat o), .ref s.heap.size, .int (Int32.ofNat 0), .int (Int32.ofNat len)]) (rest := []) rfl rfl (by show 2 * 0 + 0 ≤ _; decide) (hb hbytes d9) (⟨rfl, hA3, ba3, hne, l1, by rw [bs3]; simp, hp⟩)
  obtain ⟨rfl, B6, p6, f6⟩ := E6
  have c7 : Steps p.tables e below (s₁.setTop (entryFrame m #[.ref b, .int (Int32.ofNat o), .int (Int32.ofNat len)] 6)) (T6.setTop (mkF m 12 #[.val (.ref b), .val (.int (Int32.ofNat o)), .val (.int (Int32.ofNat len)), .val (.ref s.heap.size), .unset, .unset] [.int (Int32.ofNat len)])) := g6
  have c8 : Steps p.tables e below (s₁.setTop (entryFrame m #[.ref b, .int (Int32.ofNat o), .int (Int32.ofNat len)] 6)) (T6.setTop (mkF m 58 #[.val (.ref b), .val (.int (Int32.ofNat o)), .val (.int (Int32.ofNat len)), .val (.ref s.heap.size), .val (.int (Int32.ofNat len)), .unset] [.ref s.heap.size])) := c7.trans (by
    refine XS.istore X6.here hexec rfl (hb hbytes d12) rfl rfl ?_
    refine XS.iload X6.here hexec rfl (hb hbytes d14) rfl ?_
    refine XS.iloadN X6.here hexec rfl (hb hbytes d16) rfl ?_
    refine XS.icmpYes X6.here hexec rfl (pc0 := 17) rfl (hb hbytes d17) rfl (ii_eq_t rfl) (by decide) rfl ?_
    refine XS.aloadN X6.here hexec rfl (hb hbytes d57) rfl rfl ?_
    exact Steps.refl _)
  have X8 := X6.wide (L' := []) (cells' := 1) (slots' := len) (fun x hx hlt => by
    simp only [List.nil_append, copyLocs, List.mem_map, List.mem_range] at hx
    obtain ⟨i, -, rfl⟩ := hx
    exact absurd hlt (Nat.lt_irrefl _)) (Nat.le_refl _) (by omega)
  exact ⟨T6, some (.ref s.heap.size), _, _, _, X8, rfl, rfl, rfl, (fun h => by cases h), ⟨⟨rfl, B6, ba3.like (X3.warmed.alike.symm.trans X6.warmed.alike) p6.1 f6.1 f6.2.1 f6.2.2.1, f6.2.1.trans bv3, by rw [X6.warmed.alike.findClass, f6.1]; exact bf3, by rw [f6.2.2.1, bs3]; simp, fun j hj => by rw [f6.2.2.2 j, if_pos (by omega)]; rfl, kp3.put p6 (Nat.le_refl _)⟩, by rw [p6.2.2, bh3, hh0]; simp⟩, fun fs hl => c8.trans (X8.areturnOut hexec rfl hret rfl (hb hbytes d58) hl)⟩
end Cmp3
namespace CodL
def yN : MethodName := ⟨"java/lang/StringUTF16", "coderFromArrayLen", "([BI)B"⟩
abbrev yB : ByteArray := jdk_52_method_15_code
theorem d0 : decode yB 0 = .ok (.iload_n 1, 1) := by decide +kernel
theorem d1 : decode yB 1 = .ok (.aload_n 0, 1) := by decide +kernel
theorem d2 : decode yB 2 = .ok (.arraylength, 1) := by decide +kernel
theorem d3 : decode yB 3 = .ok (.isub, 1) := by decide +kernel
theorem d4 : decode yB 4 = .ok (.bipush 31, 2) := by decide +kernel
theorem d6 : decode yB 6 = .ok (.iushr, 1) := by decide +kernel
theorem d7 : decode yB 7 = .ok (.i2b, 1) := by decide +kernel
theorem d8 : decode yB 8 = .ok (.ireturn, 1) := by decide +kernel
def site : List Cond := []
def tab : Cond := tabOf yN yB 2 (some .byte) site
def P (d : Addr) (B : Cell) (args : Array Value) (s : State) : Prop := args = #[.ref d, .int (Int32.ofNat B.slots.size)] ∧ Arr .byte d B s
def E (r : Option Value) (s u : State) : Prop := XT.PureE (some (.int 0)) r s u
/-- an array as long as the number of chars: LATIN1 -/
theorem law (l : Launch) (d : Addr) (B : Cell) : Law l yN 2 2 0 0 yB 2 (some .byte) site (P d B) E [] 0 0 := by
  refine Law.of_walk (plainFor_of_name (by decide +kernel)) (by decide +kernel) (by decide +kernel) (by decide) (fun _ _ h => by rw [h.1]; rfl) (fun _ U U' hal hh h => ⟨h.1, h.2.mv hal hh⟩) (fun r U U' V V' h1 hal h2 h => XT.PureE.mv r U U' V V' h1 hal h2 h) ?_
  intro p e s m args below meth c s₁ X0 hexec hbytes hml hret hlk hnm hown hh0 W hP
  obtain ⟨rfl, hB⟩ := hP
  have hB0 := hB.mv X0.warmed.alike hh0
  have c1 : Steps p.tables e below (s₁.setTop (entryFrame m #[.ref d, .int (Int32.ofNat B.slots.size)] 2)) (s₁.setTop (mkF m 0 #[.val (.ref d), .val (.int (Int32.ofNat B.slots.size))] [])) := entry rfl
  have c2 : Steps p.tables e below (s₁.setTop (entryFrame m #[.ref d, .int (Int32.ofNat B.slots.size)] 2)) (s₁.setTop (mkF m 2 #[.val (.ref d), .val (.int (Int32.ofNat B.slots.size))] [.ref d, .int (Int32.ofNat B.slots.size)])) := c1.trans (by
    refine XS.iloadN X0.here hexec rfl (hb hbytes d0) rfl ?_
    refine XS.aloadN X0.here hexec rfl (hb hbytes d1) rfl rfl ?_
    exact Steps.refl _)
  have c3 : Steps p.tables e below (s₁.setTop (entryFrame m #[.ref d, .int (Int32.ofNat B.slots.size)] 2)) (s₁.setTop (mkF m 8 #[.val (.ref d), .val (.int (Int32.ofNat B.slots.size))] [.int (lo8 (ushr (Int32.ofNat B.slots.size - Int32.ofNat B.slots.size) 31))])) := c2.trans (by
    refine X0.alen hexec hB0 rfl rfl (hb hbytes d2) ?_
    refine XS.isub X0.here hexec rfl (hb hbytes d3) rfl ?_
    refine bipushV X0.here hexec rfl 31 (hb hbytes d4) (by decide) ?_
    refine iushr X0.here hexec rfl (hb hbytes d6) rfl ?_
    refine i2b X0.here hexec rfl (hb hbytes d7) rfl ?_
    exact Steps.refl _)
  have e0 : lo8 (ushr (Int32.ofNat B.slots.size - Int32.ofNat B.slots.size) 31) = 0 := by rw [Int32.sub_self]; decide
  rw [e0] at c3
  exact ⟨s₁, some (.int 0), _, _, _, X0, rfl, rfl, rfl, (fun h => by cases h), ⟨rfl, hh0⟩, fun fs hl => c3.trans (X0.ireturnOut hexec hret rfl (Or.inr (Or.inr (Or.inl rfl))) (hb hbytes d8) hl)⟩
end CodL
/-- the String at a is Latin-1 over a new byte[] (the heap's one new cell): the low bytes of the len chars of A from o on; every cell but a is kept -/
def Got (a : Addr) (D : Cell) (fV fC : Field) (A : Cell) (o len : Nat) (r : Option Value) (s u : State) : Prop := r = none ∧ ∃ D' V : Cell, Blank "java/lang/String" a D' u ∧ Same D D' [fV.slot, fC.slot] ∧ D'.slots[fV.slot]? = some (.ref s.heap.size) ∧ D'.slots[fC.slot]? = some (.int 0) ∧ Arr .byte s.heap.size V u ∧ V.vm = .none ∧ u.vm.findClass "[B" = some V.cls ∧ V.slots.size = len ∧ (∀ j, j < len → V.slots[j]? = some (.int (lo8 (cv A (o + j))))) ∧ (∀ (y : Addr) (c : Cell), y ≠ a → s.heap[y]? = some c → u.heap[y]? = some c) ∧ u.heap.size = s.heap.size + 1
theorem Got.mv {a : Addr} {D A : Cell} {fV fC : Field} {o len : Nat} : ∀ r (U U' V V' : State), U'.heap = U.heap → V.vm.Alike V'.vm → V'.heap = V.heap → Got a D fV fC A o len r U V → Got a D fV fC A o len r U' V' :=
  fun r U U' V V' h1 hal h2 ⟨e0, D', X, a1, a2, a3, a4, a5, a6, a7, a8, a9, a10, a11⟩ => ⟨e0, D', X, a1.mv hal h2, a2, by rw [h1]; exact a3, a4, by rw [h1]; exact a5.mv hal h2, a6, by rw [hal.findClass]; exact a7, a8, a9, by rw [h1, h2]; exact a10, by rw [h1, h2]; exact a11⟩
namespace New4
def yN : MethodName := ⟨"java/lang/String", "<init>", "([CIILjava/lang/Void;)V"⟩
abbrev yB : ByteArray := jdk_42_method_149_code
theorem d0 : decode yB 0 = .ok (.aload_n 0, 1) := by decide +kernel
theorem d1 : decode yB 1 = .ok (.invokespecial 1, 3) := by decide +kernel
theorem d4 : decode yB 4 = .ok (.iload_n 3, 1) := by decide +kernel
theorem d5 : decode yB 5 = .ok (.ifCond (.ne) 22, 3) := by decide +kernel
theorem d27 : decode yB 27 = .ok (.getstatic 38, 3) := by decide +kernel
theorem d30 : decode yB 30 = .ok (.ifCond (.eq) 28, 3) := by decide +kernel
theorem d33 : decode yB 33 = .ok (.aload_n 1, 1) := by decide +kernel
theorem d34 : decode yB 34 = .ok (.iload_n 2, 1) := by decide +kernel
theorem d35 : decode yB 35 = .ok (.iload_n 3, 1) := by decide +kernel
theorem d36 : decode yB 36 = .ok (.invokestatic 177, 3) := by decide +kernel
theorem d39 : decode yB 39 = .ok (.astore 5, 2) := by decide +kernel
theorem d41 : decode yB 41 = .ok (.aload_n 0, 1) := by decide +kernel
theorem d42 : decode yB 42 = .ok (.aload 5, 2) := by decide +kernel
theorem d44 : decode yB 44 = .ok (.iload_n 3, 1) := by decide +kernel
theorem d45 : decode yB 45 = .ok (.invokestatic 47, 3) := by decide +kernel
theorem d48 : decode yB 48 = .ok (.putfield 15, 3) := by decide +kernel
theorem d51 : decode yB 51 = .ok (.aload_n 0, 1) := by decide +kernel
theorem d52 : decode yB 52 = .ok (.aload 5, 2) := by decide +kernel
theorem d54 : decode yB 54 = .ok (.putfield 9, 3) := by decide +kernel
theorem d57 : decode yB 57 = .ok (.return_, 1) := by decide +kernel
def site : List Cond := [.fieldLink "java/lang/String" 38 "java/lang/String" "COMPACT_STRINGS" "Z", Cmp3.tab, CodL.tab, .laysFinal "java/lang/String" "java/lang/String" "value" "[B", .fieldLink "java/lang/String" 9 "java/lang/String" "value" "[B", .laysFinal "java/lang/String" "java/lang/String" "coder" "B", .fieldLink "java/lang/String" 15 "java/lang/String" "coder" "B"] ++ objW "java/lang/String" 1 ++ staticW "java/lang/String" 177 Cmp3.yN ++ staticW "java/lang/String" 47 CodL.yN
def tab : Cond := tabOf yN yB 6 none site
def P (a : Addr) (D : Cell) (fV fC : Field) (b : Addr) (A : Cell) (z : Int32) (o len : Nat) (args : Array Value) (s : State) : Prop := args = #[.ref a, .ref b, .int (Int32.ofNat o), .int (Int32.ofNat len), .null] ∧ Blank "java/lang/String" a D s ∧ Found "java/lang/String" "value" "[B" fV s ∧ Found "java/lang/String" "coder" "B" fC s ∧ Ch b A s ∧ StaticIs s "java/lang/String" "COMPACT_STRINGS" "Z" (.int z) ∧ ¬ z = 0 ∧ 0 < len ∧ o + len ≤ A.slots.size ∧ len ≤ 536870912 ∧ ∀ i, i < len → ¬ 255 < cv A (o + i)
def E (a : Addr) (D : Cell) (fV fC : Field) (A : Cell) (o len : Nat) (r : Option Value) (s u : State) : Prop := Got a D fV fC A o len r s u
/-- len > 0, no char of the range above 255: a Latin-1 String of their low bytes -/
theorem law (l : Launch) (a : Addr) (D : Cell) (fV fC : Field) (b : Addr) (A : Cell) (z : Int32) (o len : Nat) : Law l yN 5 4 2 35 yB 6 none site (P a D fV fC b A z o len) (E a D fV fC A o len) [⟨a, fC.slot⟩, ⟨a, fV.slot⟩] 1 len := by
  refine Law.of_walk (plainFor_of_name (by decide +kernel)) (by decide +kernel) (by decide +kernel) (by decide) (fun _ _ h => by rw [h.1]; rfl) (fun _ U U' hal hh h => ⟨h.1, h.2.1.mv hal hh, h.2.2.1.al hal, h.2.2.2.1.al hal, h.2.2.2.2.1.mv hal hh, h.2.2.2.2.2.1.there hal hh, h.2.2.2.2.2.2⟩) (fun r U U' V V' h1 hal h2 h => Got.mv r U U' V V' h1 hal h2 h) ?_
  intro p e s m args below meth c s₁ X0 hexec hbytes hml hret hlk hnm hown hh0 W hP
  obtain ⟨rfl, hB, f1, f2, hA, s1, hz, l0, l1, l2, hp⟩ := hP
  have a31 := hA.1.2.2.2
  have c1 : Steps p.tables e below (s₁.setTop (entryFrame m #[.ref a, .ref b, .int (Int32.ofNat o), .int (Int32.ofNat len), .null] 6)) (s₁.setTop (mkF m 0 #[.val (.ref a), .val (.ref b), .val (.int (Int32.ofNat o)), .val (.int (Int32.ofNat len)), .val .null, .unset] [])) := entry rfl
  have c2 : Steps p.tables e below (s₁.setTop (entryFrame m #[.ref a, .ref b, .int (Int32.ofNat o), .int (Int32.ofNat len), .null] 6)) (s₁.setTop (mkF m 1 #[.val (.ref a), .val (.ref b), .val (.int (Int32.ofNat o)), .val (.int (Int32.ofNat len)), .val .null, .unset] [.ref a])) := c1.trans (by
    refine XS.aloadN X0.here hexec rfl (hb hbytes d0) rfl rfl ?_
    exact Steps.refl _)
  obtain ⟨T3, X3, q3, st3⟩ := X0.oinit hexec hown (wks W (objW "java/lang/String" 1)) (g := (mkF m 1 #[.val (.ref a), .val (.ref b), .val (.int (Int32.ofNat o)), .val (.int (Int32.ofNat len)), .val .null, .unset] [.ref a])) rfl (by rw [hml]; rfl) (rest := []) rfl (hb hbytes d1) (W := 0) (by show 2 * 0 + 0 ≤ _; decide) (Nat.le_of_ble_eq_true rfl) (Nat.le_of_ble_eq_true rfl)
  have hh3 := q3.trans hh0
  have c4 : Steps p.tables e below (s₁.setTop (entryFrame m #[.ref a, .ref b, .int (Int32.ofNat o), .int (Int32.ofNat len), .null] 6)) (T3.setTop (mkF m 27 #[.val (.ref a), .val (.ref b), .val (.int (Int32.ofNat o)), .val (.int (Int32.ofNat len)), .val .null, .unset] [])) := (c2.trans (st3 _ (Steps.refl _))).trans (by
    refine XS.iloadN X3.here hexec rfl (hb hbytes d4) rfl ?_
    refine XS.ifYes X3.here hexec rfl (pc0 := 5) rfl (hb hbytes d5) rfl (i0_ne_t (nz32 (by omega) l0)) (by decide) rfl ?_
    exact Steps.refl _)
  obtain ⟨T5, X5, q5, st5⟩ := X3.sget hexec hown (wk W (.fieldLink "java/lang/String" 38 "java/lang/String" "COMPACT_STRINGS" "Z")) s1 (fun _ _ h => by rw [hh3]; exact h) (g := (mkF m 27 #[.val (.ref a), .val (.ref b), .val (.int (Int32.ofNat o)), .val (.int (Int32.ofNat len)), .val .null, .unset] [])) rfl (hb hbytes d27)
  have hh5 := q5.trans hh3
  have c6 : Steps p.tables e below (s₁.setTop (entryFrame m #[.ref a, .ref b, .int (Int32.ofNat o), .int (Int32.ofNat len), .null] 6)) (T5.setTop (mkF m 30 #[.val (.ref a), .val (.ref b), .val (.int (Int32.ofNat o)), .val (.int (Int32.ofNat len)), .val .null, .unset] [.int z])) := c4.trans (st5 _ (Steps.refl _))
  have c7 : Steps p.tables e below (s₁.setTop (entryFrame m #[.ref a, .ref b, .int (Int32.ofNat o), .int (Int32.ofNat len), .null] 6)) (T5.setTop (mkF m 36 #[.val (.ref a), .val (.ref b), .val (.int (Int32.ofNat o)), .val (.int (Int32.ofNat len)), .val .null, .unset] [.int (Int32.ofNat len), .int (Int32.ofNat o), .ref b])) := c6.trans (by
    refine XS.ifNo X5.here hexec rfl (hb hbytes d30) rfl (i0_eq_f hz) ?_
    refine XS.aloadN X5.here hexec rfl (hb hbytes d33) rfl rfl ?_
    refine XS.iloadN X5.here hexec rfl (hb hbytes d34) rfl ?_
    refine XS.iloadN X5.here hexec rfl (hb hbytes d35) rfl ?_
    exact Steps.refl _)
  obtain ⟨v8, T8, X8, E8, g8⟩ := X5.callS hexec (Cmp3.law l b A o len) hown (wks W (staticW "java/lang/String" 177 Cmp3.yN)) (wk W Cmp3.tab) (W := 0) (Nat.le_of_ble_eq_true rfl) (Nat.le_of_ble_eq_true rfl) (Nat.le_refl _) (by show 0 + len ≤ len; omega) (g := (mkF m 36 #[.val (.ref a), .val (.ref b), .val (.int (Int32.ofNat o)), .val (.int (Int32.ofNat len)), .val .null, .unset] [.int (Int32.ofNat len), .int (Int32.ofNat o), .ref b])) rfl (by rw [hml]; rfl) c7 (argsL := [.ref b, .int (Int32.ofNat o), .int (Int32.ofNat len)]) (rest := []) rfl rfl (by show 2 * 0 + 0 ≤ _; decide) (hb hbytes d36) (⟨rfl, hA.mv X5.warmed.alike hh5, l1, l2, hp⟩)
  obtain ⟨e8, z8⟩ := E8
  obtain ⟨rfl, N, n1, n2, n3, n4, n5, n6⟩ := NewArr.mv _ T5 s _ _ hh5.symm (Vm.Alike.refl _) rfl e8
  rw [hh5] at z8
  have hB1 := hB.keep X8.warmed.alike (n6 _ _ hB.1)
  have hne : s.heap.size ≠ a := (Nat.ne_of_lt (Array.getElem?_eq_some_iff.mp hB.1).1).symm
  have c9 : Steps p.tables e below (s₁.setTop (entryFrame m #[.ref a, .ref b, .int (Int32.ofNat o), .int (Int32.ofNat len), .null] 6)) (T8.setTop (mkF m 39 #[.val (.ref a), .val (.ref b), .val (.int (Int32.ofNat o)), .val (.int (Int32.ofNat len)), .val .null, .unset] [.ref s.heap.size])) := g8
  have c10 : Steps p.tables e below (s₁.setTop (entryFrame m #[.ref a, .ref b, .int (Int32.ofNat o), .int (Int32.ofNat len), .null] 6)) (T8.setTop (mkF m 45 #[.val (.ref a), .val (.ref b), .val (.int (Int32.ofNat o)), .val (.int (Int32.ofNat len)), .val .null, .val (.ref s.heap.size)] [.int (Int32.ofNat N.slots.size), .ref s.heap.size, .ref a])) := by
    have hc : Steps p.tables e below (s₁.setTop (entryFrame m #[.ref a, .ref b, .int (Int32.ofNat o), .int (Int32.ofNat len), .null] 6)) (T8.setTop (mkF m 45 #[.val (.ref a), .val (.ref b), .val (.int (Int32.ofNat o)), .val (.int (Int32.ofNat len)), .val .null, .val (.ref s.heap.size)] [.int (Int32.ofNat len), .ref s.heap.size, .ref a])) := c9.trans (by
      refine XS.astore X8.here hexec rfl (hb hbytes d39) rfl rfl rfl ?_
      refine XS.aloadN X8.here hexec rfl (hb hbytes d41) rfl rfl ?_
      refine XS.aload X8.here hexec rfl (hb hbytes d42) rfl rfl ?_
      refine XS.iloadN X8.here hexec rfl (hb hbytes d44) rfl ?_
      exact Steps.refl _)
    rw [n4]; exact hc
  obtain ⟨v11, T11, X11, E11, g11⟩ := X8.callS hexec (CodL.law l s.heap.size N) hown (wks W (staticW "java/lang/String" 47 CodL.yN)) (wk W CodL.tab) (W := 1) (Nat.le_of_ble_eq_true rfl) (Nat.le_of_ble_eq_true rfl) (Nat.le_refl _) (by show 0 + len + 0 ≤ len; omega) (g := (mkF m 45 #[.val (.ref a), .val (.ref b), .val (.int (Int32.ofNat o)), .val (.int (Int32.ofNat len)), .val .null, .val (.ref s.heap.size)] [.int (Int32.ofNat N.slots.size), .ref s.heap.size, .ref a])) rfl (by rw [hml]; rfl) c10 (argsL := [.ref s.heap.size, .int (Int32.ofNat N.slots.size)]) (rest := [.ref a]) rfl rfl (by show 2 * 0 + (1 + 0) ≤ _; decide) (hb hbytes d45) (⟨rfl, n1⟩)
  obtain ⟨rfl, q11⟩ := E11
  have hB11 := hB1.mv (X8.warmed.alike.symm.trans X11.warmed.alike) q11
  have c12 : Steps p.tables e below (s₁.setTop (entryFrame m #[.ref a, .ref b, .int (Int32.ofNat o), .int (Int32.ofNat len), .null] 6)) (T11.setTop (mkF m 48 #[.val (.ref a), .val (.ref b), .val (.int (Int32.ofNat o)), .val (.int (Int32.ofNat len)), .val .null, .val (.ref s.heap.size)] [.int 0, .ref a])) := g11
  obtain ⟨T13, X13, p13, bl13, sl13, st13⟩ := X11.finit hexec hown (wk W (.fieldLink "java/lang/String" 15 "java/lang/String" "coder" "B")) (Or.inr ⟨_, (wk W (.laysFinal "java/lang/String" "java/lang/String" "coder" "B"))⟩) (Or.inl ⟨rfl, hnm⟩) f2 (Or.inl rfl) hB11 (t := .byte) (by decide +kernel) rfl (g := (mkF m 48 #[.val (.ref a), .val (.ref b), .val (.int (Int32.ofNat o)), .val (.int (Int32.ofNat len)), .val .null, .val (.ref s.heap.size)] [.int 0, .ref a])) rfl (rest := []) rfl (hb hbytes d48)
  have c14 : Steps p.tables e below (s₁.setTop (entryFrame m #[.ref a, .ref b, .int (Int32.ofNat o), .int (Int32.ofNat len), .null] 6)) (T13.setTop (mkF m 54 #[.val (.ref a), .val (.ref b), .val (.int (Int32.ofNat o)), .val (.int (Int32.ofNat len)), .val .null, .val (.ref s.heap.size)] [.ref s.heap.size, .ref a])) := (c12.trans (st13 _ (Steps.refl _))).trans (by
    refine XS.aloadN X13.here hexec rfl (hb hbytes d51) rfl rfl ?_
    refine XS.aload X13.here hexec rfl (hb hbytes d52) rfl rfl ?_
    exact Steps.refl _)
  obtain ⟨T15, X15, p15, bl15, sl15, st15⟩ := X13.finit hexec hown (wk W (.fieldLink "java/lang/String" 9 "java/lang/String" "value" "[B")) (Or.inr ⟨_, (wk W (.laysFinal "java/lang/String" "java/lang/String" "value" "[B"))⟩) (Or.inl ⟨rfl, hnm⟩) f1 (Or.inl rfl) bl13 (t := (.array .byte)) (by decide +kernel) rfl (g := (mkF m 54 #[.val (.ref a), .val (.ref b), .val (.int (Int32.ofNat o)), .val (.int (Int32.ofNat len)), .val .null, .val (.ref s.heap.size)] [.ref s.heap.size, .ref a])) rfl (rest := []) rfl (hb hbytes d54)
  have c16 : Steps p.tables e below (s₁.setTop (entryFrame m #[.ref a, .ref b, .int (Int32.ofNat o), .int (Int32.ofNat len), .null] 6)) (T15.setTop (mkF m 57 #[.val (.ref a), .val (.ref b), .val (.int (Int32.ofNat o)), .val (.int (Int32.ofNat len)), .val .null, .val (.ref s.heap.size)] [])) := c14.trans (st15 _ (Steps.refl _))
  have ap := apart (Or.inr ⟨_, (wk W (.laysFinal "java/lang/String" "java/lang/String" "value" "[B"))⟩) (Or.inr ⟨_, (wk W (.laysFinal "java/lang/String" "java/lang/String" "coder" "B"))⟩) f1 f2 (t₁ := .array .byte) (t₂ := .byte) (by decide +kernel) (by decide +kernel) (by decide)
  have al := X8.warmed.alike.symm.trans X15.warmed.alike
  have n7 : T11.heap[s.heap.size]? = some N := by rw [q11]; exact n1.1
  exact ⟨T15, none, _, _, _, X15, by simp, rfl, by omega, (fun _ => rfl), ⟨rfl, _, N, bl15, ((Same.refl D _).set _ (by simp)).set _ (by simp), sl15, (Cell.slots_setSlot_ne _ ap).trans sl13, n1.keep al (p15.other hne (p13.other hne n7)), n2, by rw [al.findClass]; exact n3, n4, n5, fun y c h1 h2 => p15.other h1 (p13.other h1 (by rw [q11]; exact n6 y c h2)), by rw [p15.2.2, p13.2.2, q11]; exact z8⟩, fun fs hl => c16.trans (X15.returnOut hexec hret (hb hbytes d57) hl)⟩
end New4
namespace New1
def yN : MethodName := ⟨"java/lang/String", "<init>", "([C)V"⟩
abbrev yB : ByteArray := jdk_42_method_3_code
theorem d0 : decode yB 0 = .ok (.aload_n 0, 1) := by decide +kernel
theorem d1 : decode yB 1 = .ok (.aload_n 1, 1) := by decide +kernel
theorem d2 : decode yB 2 = .ok (.iconst 0, 1) := by decide +kernel
theorem d3 : decode yB 3 = .ok (.aload_n 1, 1) := by decide +kernel
theorem d4 : decode yB 4 = .ok (.arraylength, 1) := by decide +kernel
theorem d5 : decode yB 5 = .ok (.aconst_null, 1) := by decide +kernel
theorem d6 : decode yB 6 = .ok (.invokespecial 27, 3) := by decide +kernel
theorem d9 : decode yB 9 = .ok (.return_, 1) := by decide +kernel
def site : List Cond := [New4.tab] ++ initW "java/lang/String" 27 New4.yN
def tab : Cond := tabOf yN yB 2 none site
def P (a : Addr) (D : Cell) (fV fC : Field) (b : Addr) (A : Cell) (z : Int32) (args : Array Value) (s : State) : Prop := args = #[.ref a, .ref b] ∧ Blank "java/lang/String" a D s ∧ Found "java/lang/String" "value" "[B" fV s ∧ Found "java/lang/String" "coder" "B" fC s ∧ Ch b A s ∧ StaticIs s "java/lang/String" "COMPACT_STRINGS" "Z" (.int z) ∧ ¬ z = 0 ∧ 0 < A.slots.size ∧ A.slots.size ≤ 536870912 ∧ ∀ i, i < A.slots.size → ¬ 255 < cv A i
def E (a : Addr) (D : Cell) (fV fC : Field) (A : Cell) (r : Option Value) (s u : State) : Prop := Got a D fV fC A 0 A.slots.size r s u
/-- new String(chars), not empty, no char above 255: a Latin-1 String of their low bytes -/
theorem law (l : Launch) (a : Addr) (D : Cell) (fV fC : Field) (b : Addr) (A : Cell) (z : Int32) : Law l yN 2 1 3 52 yB 2 none site (P a D fV fC b A z) (E a D fV fC A) [⟨a, fC.slot⟩, ⟨a, fV.slot⟩] 1 A.slots.size := by
  refine Law.of_walk (plainFor_of_name (by decide +kernel)) (by decide +kernel) (by decide +kernel) (by decide) (fun _ _ h => by rw [h.1]; rfl) (fun _ U U' hal hh h => ⟨h.1, h.2.1.mv hal hh, h.2.2.1.al hal, h.2.2.2.1.al hal, h.2.2.2.2.1.mv hal hh, h.2.2.2.2.2.1.there hal hh, h.2.2.2.2.2.2⟩) (fun r U U' V V' h1 hal h2 h => Got.mv r U U' V V' h1 hal h2 h) ?_
  intro p e s m args below meth c s₁ X0 hexec hbytes hml hret hlk hnm hown hh0 W hP
  obtain ⟨rfl, hB, f1, f2, hA, s1, hz, l0, l2, hp⟩ := hP
  have c1 : Steps p.tables e below (s₁.setTop (entryFrame m #[.ref a, .ref b] 2)) (s₁.setTop (mkF m 0 #[.val (.ref a), .val (.ref b)] [])) := entry rfl
  have c2 : Steps p.tables e below (s₁.setTop (entryFrame m #[.ref a, .ref b] 2)) (s₁.setTop (mkF m 6 #[.val (.ref a), .val (.ref b)] [.null, .int (Int32.ofNat A.slots.size), .int 0, .ref b, .ref a])) := c1.trans (by
    refine XS.aloadN X0.here hexec rfl (hb hbytes d0) rfl rfl ?_
    refine XS.aloadN X0.here hexec rfl (hb hbytes d1) rfl rfl ?_
    refine iconstV X0.here hexec rfl 0 (hb hbytes d2) (by decide) ?_
    refine XS.aloadN X0.here hexec rfl (hb hbytes d3) rfl rfl ?_
    refine X0.alen hexec (hA.1.mv X0.warmed.alike hh0) rfl rfl (hb hbytes d4) ?_
    refine XS.aconstNull X0.here hexec rfl (hb hbytes d5) ?_
    exact Steps.refl _)
  obtain ⟨v3, T3, X3, E3, g3⟩ := X0.callN hexec (New4.law l a D fV fC b A z 0 A.slots.size) rfl hown (wks W (initW "java/lang/String" 27 New4.yN)) (W New4.tab (by simp only [site, List.mem_cons, List.mem_append, true_or, or_true])) (W := 0) (Nat.le_of_ble_eq_true rfl) (Nat.le_of_ble_eq_true rfl) (Nat.le_refl _) (by show 0 + A.slots.size ≤ A.slots.size; omega) (g := (mkF m 6 #[.val (.ref a), .val (.ref b)] [.null, .int (Int32.ofNat A.slots.size), .int (Int32.ofNat 0), .ref b, .ref a])) rfl (by rw [hml]; rfl) c2 (argsL := [.ref b, .int (Int32.ofNat 0), .int (Int32.ofNat A.slots.size), .null]) (rest := []) rfl rfl (by show 2 * 0 + 0 ≤ _; decide) (hb hbytes d6) (⟨rfl, hB.mv X0.warmed.alike hh0, f1.al X0.warmed.alike, f2.al X0.warmed.alike, hA.mv X0.warmed.alike hh0, s1.there X0.warmed.alike hh0, hz, l0, by omega, l2, fun i hi => by rw [Nat.zero_add]; exact hp i hi⟩)
  have e0 := Got.mv _ s₁ s _ _ hh0.symm (Vm.Alike.refl _) rfl E3
  obtain rfl := e0.1
  have c4 : Steps p.tables e below (s₁.setTop (entryFrame m #[.ref a, .ref b] 2)) (T3.setTop (mkF m 9 #[.val (.ref a), .val (.ref b)] [])) := g3
  exact ⟨T3, none, _, _, _, X3, by simp, rfl, by omega, (fun _ => rfl), e0, fun fs hl => c4.trans (X3.returnOut hexec hret (hb hbytes d9) hl)⟩
theorem pays {l : Launch} {R : Room} {p : Program} {e : Env} {below : List Frame} {s : State} {sargs : Array Value} {len W : Nat} (a : Addr) (D : Cell) (fV fC : Field) (b : Addr) (A : Cell) (z : Int32) (htab : tab.before sargs s = true) (hfr : 4 ≤ R.frames) (hlo : W + 65 ≤ R.locals) :
    Back l R p e below s sargs yN len W (fun A₁ a₁ => A₁.cells + 1 ≤ R.cells ∧ A₁.slots + A.slots.size ≤ R.slots ∧ P a D fV fC b A z a₁ A₁.U) (fun A₁ _ v₁ B₁ => E a D fV fC A v₁ A₁.U B₁.U ∧ B₁.locs = A₁.locs ++ [⟨a, fC.slot⟩, ⟨a, fV.slot⟩] ∧ B₁.cells = A₁.cells + 1 ∧ B₁.slots = A₁.slots + A.slots.size) :=
  (law l a D fV fC b A z).pays htab hfr (by omega)
end New1
/-- the byte, read back as charAt reads it, is the char -/
theorem lo8_mask {x : Int32} (h0 : ¬ x < 0) (h1 : ¬ 255 < x) : lo8 x &&& 255 = x := by
  have t : ∀ k : Fin 256, lo8 (Int32.ofNat k.val) &&& 255 = Int32.ofNat k.val := by decide +kernel
  rw [Int32.lt_iff_toInt_lt] at h0 h1
  have e0 : (0 : Int32).toInt = 0 := rfl
  have e1 : (255 : Int32).toInt = 255 := rfl
  obtain ⟨k, hk⟩ : ∃ k : Nat, x.toInt = k := ⟨x.toInt.toNat, by omega⟩
  have hx : x = Int32.ofNat k := Int32.toInt_inj.mp (by rw [hk, Int32.toInt_ofNat_small (by omega)])
  rw [hx]
  exact t ⟨k, by omega⟩
end StrChars
namespace StrChars.Road
open Jvm Sem ClassFile Op Lib Jvm.Stand Jvm.Free Jvm.Free.XT
open Jvm.Lib.Cold (StaticIs)
abbrev ST : String := "java/lang/String"
/-- every table word that New1's law asks, flat -/
abbrev words : List Jvm.Cond := [.code New1.yN New1.yB 2 none, .initialized ST, .methodLink ST 27 New4.yN, .instanceMethod New4.yN,
  .code New4.yN New4.yB 6 none, .fieldLink ST 38 ST "COMPACT_STRINGS" "Z", .laysFinal ST ST "value" "[B", .fieldLink ST 9 ST "value" "[B", .laysFinal ST ST "coder" "B", .fieldLink ST 15 ST "coder" "B",
  .methodLink ST 1 Lib.objectInit, .instanceMethod Lib.objectInit, .code Lib.objectInit ⟨#[0xb1]⟩ 1 none, .methodLink ST 177 Cmp3.yN, .static Cmp3.yN, .methodLink ST 47 CodL.yN, .static CodL.yN,
  .code Cmp3.yN Cmp3.yB 6 (some (.array .byte)), .initialized U16, .arrayClass .byte, .methodLink U16 115 Cmp5.yN, .static Cmp5.yN, .code Cmp5.yN Cmp5.yB 7 (some .int), .code CodL.yN CodL.yB 2 (some .byte)]
theorem tab_of {a : Array Value} {s : State} (h : ∀ w ∈ words, w.before a s = true) : New1.tab.before a s = true := by
  have h5 : Cmp5.tab.before a s = true := unparts (wk h (.code Cmp5.yN Cmp5.yB 7 (some .int))) (wks h (.initialized Cmp5.yN.cls :: Cmp5.site))
  have hc : CodL.tab.before a s = true := unparts (wk h (.code CodL.yN CodL.yB 2 (some .byte))) (wks h (.initialized CodL.yN.cls :: CodL.site))
  have q5 : ∀ w ∈ Cmp5.tab :: words, w.before a s = true := fun w hw => (List.mem_cons.mp hw).elim (fun e => e ▸ h5) (h w)
  have h3 : Cmp3.tab.before a s = true := unparts (wk q5 (.code Cmp3.yN Cmp3.yB 6 (some (.array .byte)))) (wks q5 (.initialized Cmp3.yN.cls :: Cmp3.site))
  have q3 : ∀ w ∈ Cmp3.tab :: CodL.tab :: words, w.before a s = true := fun w hw => (List.mem_cons.mp hw).elim (fun e => e ▸ h3) fun hw => (List.mem_cons.mp hw).elim (fun e => e ▸ hc) (h w)
  have h4 : New4.tab.before a s = true := unparts (wk q3 (.code New4.yN New4.yB 6 none)) (wks q3 (.initialized New4.yN.cls :: New4.site))
  have q4 : ∀ w ∈ New4.tab :: words, w.before a s = true := fun w hw => (List.mem_cons.mp hw).elim (fun e => e ▸ h4) (h w)
  exact unparts (wk q4 (.code New1.yN New1.yB 2 none)) (wks q4 (.initialized New1.yN.cls :: New1.site))
/-- the words ride from the start Z to the walk's own state -/
theorem moved {Z s : State} {a0 args : Array Value} (hZ : Z.Warmed39 s.vm) (hw : ∀ d ∈ words, d.before a0 Z = true) : ∀ d ∈ words, d.before args s = true := fun d hd => by
  have q := hw d hd
  have t : ∀ d ∈ words, d = .arrayClass .byte ∨ (d.onTables && d.keepsFace) = true := by decide +kernel
  rcases t d hd with rfl | t
  · exact RoadKit.mvA hZ q
  · exact RoadKit.mv hZ q t
/-- WHAT COMES BACK, over the tables of the start Z: h the heap at the call, h' behind it -/
def Q (Z : State) (x : Addr) (A : Cell) (h : Heap) (v : Option Value) (h' : Heap) (L : List Loc) : Prop := v = none ∧ (∀ y ∈ L, y.base = x) ∧ RoadKit.Keep h h' [x] ∧ h'.size = h.size + 1 ∧ RoadKit.Exa Z h' x ST ∧ RoadKit.Fld Z h' x ST "value" "[B" (.ref h.size) ∧ RoadKit.Fld Z h' x ST "coder" "B" (.int 0) ∧
  (∃ V : Cell, RoadKit.Arr Z h' h.size V .byte ∧ V.vm = .none ∧ Z.vm.findClass "[B" = some V.cls ∧ V.slots.size = A.slots.size ∧ ∀ j, j < A.slots.size → V.slots[j]? = some (.int (lo8 (cv A j)))) ∧
  ∀ (O n d : String) (w : Value), RoadKit.Fld Z h x O n d w → RoadKit.slotOf Z O n d ≠ RoadKit.slotOf Z ST "value" "[B" → RoadKit.slotOf Z O n d ≠ RoadKit.slotOf Z ST "coder" "B" → RoadKit.Fld Z h' x O n d w
/-- **new String(chars) AT A CALL, IN THE ROAD'S FORM**: for specialBack behind newO: x the fresh String, b the char[] with the cell A -/
theorem back {p : Program} {l : Launch} {e : Env} {R : Room} {s : State} {args : Array Value} {below : List Frame} {len W : Nat} {Z : State} {a0 : Array Value} {h : Heap} (hZ : Z.Warmed39 s.vm) (hw : ∀ d ∈ words, d.before a0 Z = true) {kI : Nat} (wi : (Jvm.Cond.instantiable ST kI).before a0 Z = true)
    {x b : Addr} {A : Cell} {z : Int32} {v0 c0 : Value} (E : RoadKit.Exa Z h x ST) (V : RoadKit.Fld Z h x ST "value" "[B" v0) (C : RoadKit.Fld Z h x ST "coder" "B" c0) (K : RoadKit.Arr Z h b A .char) (hty : Typed .char A) (S : RoadKit.Sta Z h ST "COMPACT_STRINGS" "Z" (.int z)) (hz : ¬ z = 0)
    (l0 : 0 < A.slots.size) (l2 : A.slots.size ≤ 536870912) (hp : ∀ i, i < A.slots.size → ¬ 255 < cv A i) (hfr : 4 ≤ R.frames) (hlo : W + 65 ≤ R.locals) :
    Back l R p e below s args New1.yN len W (fun P a => a = #[.ref x, .ref b] ∧ P.U.heap = h ∧ P.cells + 1 ≤ R.cells ∧ P.slots + A.slots.size ≤ R.slots)
      (fun P _ v B => ∃ L, Q Z x A h v B.U.heap L ∧ B.locs = P.locs ++ L ∧ B.cells = P.cells + 1 ∧ B.slots = P.slots + A.slots.size) := by
  intro m meth c P g ig mk a X hg hsize hdg hW hn hp'
  obtain ⟨rfl, rfl, r1, r2⟩ := hp'
  have al : Z.vm.Alike P.U.vm := hZ.alike.trans X.warmed.alike
  obtain ⟨D, cfV, kV, iV, fV, hD, gV, stV, knV, obV, asV, slV⟩ := id V
  obtain ⟨D', cfC, kC, iC, fC, hD', gC, stC, -, -, asC, slC⟩ := id C
  cases hD.symm.trans hD'
  obtain ⟨D2, kD, e1, e2, e3, e4, e5⟩ := id E
  cases hD.symm.trans e1
  obtain ⟨c2, k2, i1, i2, i3, -⟩ := Cond.instantiable_spec wi
  cases e2.symm.trans i1
  cases e3.symm.trans i2
  obtain ⟨kU, u1, u2⟩ := al.2.2 _ _ e3
  have hB : Blank ST x D P.U := ⟨hD, ⟨knV, fun q hq => by rw [hq] at obV; cases obV⟩, by rw [al.findClass]; exact e2, kU, u1, by rw [u2]; exact i3, by rw [u2]; exact e5 i3⟩
  have F1 : Found ST "value" "[B" fV P.U := ⟨SBG.found_only al ⟨cfV, kV, iV, gV⟩, stV⟩
  have F2 : Found ST "coder" "B" fC P.U := ⟨SBG.found_only al ⟨cfC, kC, iC, gC⟩, stC⟩
  have hA : Ch b A P.U := ⟨⟨K.1, State.isArrayOf_alike al K.2.1, K.2.2, by omega⟩, hty⟩
  have hS : StaticIs P.U ST "COMPACT_STRINGS" "Z" (.int z) := by
    obtain ⟨cfS, iS, kS, fS, st, cS, t1, t2, t3, t4, t5, t6, t7⟩ := S
    exact StaticIs.there (s := { Z with heap := P.U.heap }) ⟨cfS, iS, kS, fS, st, cS, t1, t2, t3, t4, t5, (fun q => by rw [q] at t6; cases t6), t7⟩ al rfl
  obtain ⟨v, B, X', ⟨⟨hv, E', V', q1, q2, q3, q4, q5, q6, q7, q8, q9, q10, q11⟩, hl, hc, hs⟩, st⟩ := New1.pays x D fV fC b A z (tab_of (moved hZ hw)) hfr hlo m meth c P g ig mk _ X hg hsize hdg hW hn ⟨r1, r2, rfl, hB, F1, F2, hA, hS, hz, l0, l2, hp⟩
  have al' : Z.vm.Alike B.U.vm := hZ.alike.trans X'.warmed.alike
  have hsz : E'.slots.size = D.slots.size := by
    obtain ⟨-, -, -, kB, w1, w2, w3⟩ := q1
    obtain ⟨kB', y1, y2⟩ := al'.2.2 _ _ e3
    rw [q2.2.1] at w1
    cases w1.symm.trans y1
    rw [w3, e5 i3, y2]
  refine ⟨v, B, X', ⟨_, ⟨hv, ?_, ⟨by omega, fun y cy hy hn' => q10 y cy (by simpa using hn') hy, fun y cy hy => ?_⟩, q11, ⟨E', _, q1.1, by rw [q2.2.1]; exact e2, by rw [q2.2.1]; exact e3, by rw [q2.1]; exact obV, fun _ => by rw [hsz]; exact e5 i3⟩,
    ⟨E', cfV, kV, iV, fV, q1.1, gV, stV, by rw [q2.1]; exact knV, by rw [q2.1]; exact obV, by rw [q2.2.1]; exact asV, q3⟩, ⟨E', cfC, kC, iC, fC, q1.1, gC, stC, by rw [q2.1]; exact knV, by rw [q2.1]; exact obV, by rw [q2.2.1]; exact asC, q4⟩,
    ⟨V', ⟨q5.1, State.isArrayOf_alike al'.symm q5.2.1, q5.2.2.1⟩, q6, by rw [← al'.findClass]; exact q7, q8, fun j hj => by have := q9 j hj; rwa [Nat.zero_add] at this⟩, fun O n d w F n1 n2 => ?_⟩, hl, hc, hs⟩, st⟩
  · intro y hy
    simp only [List.mem_cons, List.not_mem_nil, or_false] at hy
    rcases hy with rfl | rfl <;> rfl
  · by_cases q : y = x
    · subst q
      cases hD.symm.trans hy
      exact ⟨E', q1.1, q2.2.1, q2.1, hsz⟩
    · exact ⟨cy, q10 y cy q hy, rfl, rfl, rfl⟩
  · obtain ⟨D3, cf, k, i, f, g1, g2, g3, g4, g5, g6, g7⟩ := F
    cases hD.symm.trans g1
    simp only [RoadKit.slotOf, g2, gV, gC, Option.map_some, Option.getD_some] at n1 n2
    exact ⟨E', cf, k, i, f, q1.1, g2, g3, by rw [q2.1]; exact g4, by rw [q2.1]; exact g5, by rw [q2.2.1]; exact g6, by rw [q2.2.2 f.slot (by simp [n1, n2])]; exact g7⟩
end StrChars.Road
namespace StrChars.Road
open Jvm Sem ClassFile Op Lib Jvm.Stand Jvm.Free Jvm.Free.XT
/-- WHAT COMES BACK, the byte[] as a list of values -/
def QA (Z : State) (x : Addr) (zn : Int32) (cs : List Int32) (h : Heap) (v : Option Value) (h' : Heap) (L : List Loc) : Prop := v = none ∧ (∀ y ∈ L, y.base = x) ∧ RoadKit.Keep h h' [x] ∧ h'.size = h.size + 1 ∧ RoadKit.Exa Z h' x ST ∧ RoadKit.Fld Z h' x ST "value" "[B" (.ref h.size) ∧ RoadKit.Fld Z h' x ST "coder" "B" (.int 0) ∧
  (∃ kb, Z.vm.findClass "[B" = some kb ∧ RoadKit.Arv Z h' h.size kb .byte zn (cs.map fun c => .int (lo8 c)) (.int 0)) ∧
  ∀ (O n d : String) (w : Value), RoadKit.Fld Z h x O n d w → RoadKit.slotOf Z O n d ≠ RoadKit.slotOf Z ST "value" "[B" → RoadKit.slotOf Z O n d ≠ RoadKit.slotOf Z ST "coder" "B" → RoadKit.Fld Z h' x O n d w
/-- **new String(chars) AT A CALL, THE ARRAYS AS LISTS**: the char[] at b holds cs, not empty, no char above 255 -/
theorem backArv {p : Program} {l : Launch} {e : Env} {R : Room} {s : State} {args : Array Value} {below : List Frame} {len W : Nat} {Z : State} {a0 : Array Value} {h : Heap} (hZ : Z.Warmed39 s.vm) (hw : ∀ d ∈ words, d.before a0 Z = true) {kI : Nat} (wi : (Jvm.Cond.instantiable ST kI).before a0 Z = true)
    {x b : Addr} {k : ClassId} {zn z : Int32} {cs : List Int32} {dv v0 c0 : Value} (E : RoadKit.Exa Z h x ST) (V : RoadKit.Fld Z h x ST "value" "[B" v0) (C : RoadKit.Fld Z h x ST "coder" "B" c0) (K : RoadKit.Arv Z h b k .char zn (cs.map Value.int) dv) (S : RoadKit.Sta Z h ST "COMPACT_STRINGS" "Z" (.int z)) (hz : ¬ z = 0)
    (hlen : zn.toNatClampNeg = cs.length) (h0 : 0 < cs.length) (hbig : cs.length ≤ 536870912) (hall : ∀ c ∈ cs, ¬ 255 < c) (hfr : 4 ≤ R.frames) (hlo : W + 65 ≤ R.locals) :
    Back l R p e below s args New1.yN len W (fun P a => a = #[.ref x, .ref b] ∧ P.U.heap = h ∧ P.cells + 1 ≤ R.cells ∧ P.slots + cs.length ≤ R.slots)
      (fun P _ v B => ∃ L, QA Z x zn cs h v B.U.heap L ∧ B.locs = P.locs ++ L ∧ B.cells = P.cells + 1 ∧ B.slots = P.slots + cs.length) := by
  obtain ⟨A, K1, K2, K3, K4, K5, K6⟩ := K
  have e : A.slots.size = cs.length := K3.trans hlen
  have hat : ∀ (i : Nat) (hi : i < cs.length), A.slots[i]? = some (.int cs[i]) := fun i hi => by rw [K5 i (by omega)]; simp [List.getD_eq_getElem?_getD, hi]
  have hcv : ∀ (i : Nat) (hi : i < cs.length), cv A i = cs[i] := fun i hi => by unfold cv; rw [hat i hi]
  have hty : Typed .char A := fun i v hv => by
    have hi : i < A.slots.size := (Array.getElem?_eq_some_iff.mp hv).1
    have q := K5 i hi
    rw [hv] at q
    rw [Option.some.inj q]
    exact K6 i hi
  refine Back.mono (back hZ hw wi E V C K1 hty S hz (by omega) (by omega) (fun i hi => by rw [hcv i (by omega)]; exact hall _ (List.getElem_mem _)) hfr hlo) (fun P a hp => ⟨hp.1, hp.2.1, hp.2.2.1, by rw [e]; exact hp.2.2.2⟩) (fun P a v B hp hq => ?_)
  obtain ⟨L, ⟨q1, q2, q3, q4, q5, q6, q7, ⟨V', v1, v2, v3, v4, v5⟩, q9⟩, hl, hc, hs⟩ := hq
  refine ⟨L, ⟨q1, q2, q3, q4, q5, q6, q7, ⟨V'.cls, v3, V', v1, rfl, by rw [v4, e, hlen], K4, fun i hi => ?_, fun i hi => ?_⟩, q9⟩, hl, hc, by rw [hs, e]⟩
  · have hi' : i < cs.length := by omega
    rw [v5 i (by omega), hcv i hi']; simp [List.getD_eq_getElem?_getD, hi']
  · have hi' : i < cs.length := by omega
    simp only [List.getD_eq_getElem?_getD, List.getElem?_map, List.getElem?_eq_getElem hi', Option.map_some, Option.getD_some]
    exact fits_lo8 _
end StrChars.Road
namespace StrChars.Road
open Jvm Sem ClassFile Op Lib Jvm.Stand Jvm.Free Jvm.Free.XT
/-- WHAT COMES BACK, in the writer's own shape -/
def QV (Z : State) (x : Addr) (N : Int32) (bs : List Int32) (h : Heap) (n0 : Nat) (v : Option Value) (h' : Heap) (L : List Loc) : Prop := v = none ∧ RoadKit.Fr n0 L ∧ RoadKit.Keep h h' [x] ∧ RoadKit.Exa Z h' x ST ∧ RoadKit.Fld Z h' x ST "coder" "B" (.int 0) ∧
  ∃ (t : Addr) (kb : ClassId), n0 ≤ t ∧ h.size ≤ t ∧ ¬ t = x ∧ RoadKit.Fld Z h' x ST "value" "[B" (.ref t) ∧ RoadKit.Arv Z h' t kb .byte N (bs.map Value.int) (.int 0)
/-- **new String(chars) AT A CALL, FOR THE WRITER**: a char[] of n known ints, each 0 to 255 -/
theorem backV {p : Program} {l : Launch} {e : Env} {R : Room} {s : State} {args : Array Value} {below : List Frame} {len W : Nat} {Z : State} {a0 : Array Value} {h : Heap} (hZ : Z.Warmed39 s.vm) (hw : ∀ d ∈ words, d.before a0 Z = true) {kI : Nat} (wi : (Jvm.Cond.instantiable ST kI).before a0 Z = true)
    {x b : Addr} {kC : ClassId} {cs bs : List Int32} {d v0 c0 : Value} {z N : Int32} {n n0 : Nat} (hx0 : n0 ≤ x) (hh0 : n0 ≤ h.size) (E : RoadKit.Exa Z h x ST) (V : RoadKit.Fld Z h x ST "value" "[B" v0) (C : RoadKit.Fld Z h x ST "coder" "B" c0) (K : RoadKit.Arv Z h b kC .char N (cs.map Value.int) d) (S : RoadKit.Sta Z h ST "COMPACT_STRINGS" "Z" (.int z)) (hz : ¬ z = 0)
    (hn : cs.length = n) (hN : N = Int32.ofNat n) (l0 : 0 < n) (l2 : n ≤ 4000) (hp : ∀ c ∈ cs, ¬ c < 0 ∧ ¬ (255 : Int32) < c) (hb : bs = cs.map (fun c => c.toInt8.toInt32)) (hfr : 4 ≤ R.frames) (hlo : W + 65 ≤ R.locals) :
    Back l R p e below s args (⟨"java/lang/String", "<init>", "([C)V"⟩ : MethodName) len W (fun P a => a = #[.ref x, .ref b] ∧ P.U.heap = h ∧ P.cells + 1 ≤ R.cells ∧ P.slots + n ≤ R.slots)
      (fun P _ v B => ∃ L, QV Z x N bs h n0 v B.U.heap L ∧ B.locs = P.locs ++ L ∧ B.cells = P.cells + 1 ∧ B.slots = P.slots + n) := by
  subst hn hN hb
  refine Back.mono (backArv hZ hw wi E V C K S hz (n32 (by omega)) l0 (by omega) (fun c hc => (hp c hc).2) hfr hlo) (fun P a hp => hp) (fun P a v B hp hq => ?_)
  obtain ⟨L, ⟨q1, q2, q3, q4, q5, q6, q7, ⟨kb, v1, v2⟩, q9⟩, hl, hc, hs⟩ := hq
  exact ⟨L, ⟨q1, fun y hy => by rw [q2 y hy]; exact hx0, q3, q5, q7, h.size, kb, hh0, Nat.le_refl _, Nat.ne_of_gt E.lt, q6, by rw [List.map_map]; exact v2⟩, hl, hc, hs⟩
end StrChars.Road
namespace StrChars
open Jvm Sem ClassFile Op Lib Jvm.Stand Jvm.Free.XT Jvm.Free.ALB Jvm.Free.JM Jvm.Free
open Jvm.Lib.Cold (StaticIs)
def hi8 (x : Int32) : Int32 := lo8 (x >>> ((8 : Int32) &&& 31))
/-- what StringUTF16.getChar makes of two bytes -/
def pairCh (u v : Int32) : Int32 := (((u &&& 255) <<< ((0 : Int32) &&& 31)) ||| ((v &&& 255) <<< ((8 : Int32) &&& 31))).toUInt32.toUInt16.toUInt32.toInt32
theorem shr0 (c : Int32) : c >>> ((0 : Int32) &&& 31) = c := by
  have e : ((0 : Int32) &&& 31) = 0 := by decide
  rw [e]
  apply Int32.toBitVec_inj.mp
  rw [Int32.toBitVec_shiftRight]
  have e1 : ((0 : Int32).toBitVec.smod 32) = 0#32 := by decide
  rw [e1, BitVec.sshiftRight_eq']
  exact BitVec.sshiftRight_zero
theorem lo8_and (x : Int32) : (lo8 x &&& 255).toBitVec.toNat = x.toBitVec.toNat % 256 := by
  have h : (lo8 x).toBitVec = (x.toBitVec.signExtend 8).signExtend 32 := by rw [lo8, Int8.toBitVec_toInt32, Int32.toBitVec_toInt8]
  rw [Int32.toBitVec_and, BitVec.toNat_and, h]
  have e : ((x.toBitVec.signExtend 8).signExtend 32).toNat % 256 = x.toBitVec.toNat % 256 := by
    rw [BitVec.toNat_signExtend]
    have hlt := x.toBitVec.isLt
    simp only [BitVec.toNat_setWidth, BitVec.toNat_signExtend]
    split <;> split <;> omega
  rw [← e]
  exact Nat.and_two_pow_sub_one_eq_mod _ 8
theorem pair_says {c : Int32} (h0 : ¬ c < 0) (h1 : ¬ 65535 < c) : pairCh (lo8 c) (hi8 c) = c := by
  rw [Int32.lt_iff_toInt_lt] at h0 h1
  have e0 : (0 : Int32).toInt = 0 := rfl
  have e1 : (65535 : Int32).toInt = 65535 := rfl
  have hc : c.toInt = c.toBitVec.toNat := by
    have := c.toBitVec.isLt
    have e : c.toInt = c.toBitVec.toInt := rfl
    rw [e] at h0 h1
    rw [e]
    rw [BitVec.toInt_eq_toNat_cond] at h0 h1 ⊢
    split at h0 <;> split <;> omega
  have hn : c.toBitVec.toNat < 65536 := by omega
  have a1 := lo8_and c
  have a2 : (hi8 c &&& 255).toBitVec.toNat = c.toBitVec.toNat / 256 := by
    rw [hi8, lo8_and]
    have e : ((8 : Int32) &&& 31) = 8 := by decide
    rw [e, Int32.toBitVec_shiftRight]
    have e2 : ((8 : Int32).toBitVec.smod 32) = 8#32 := by decide
    rw [e2, BitVec.sshiftRight_eq', BitVec.toNat_sshiftRight_of_msb_false (by rw [BitVec.msb_eq_false_iff_two_mul_lt]; omega)]
    show c.toBitVec.toNat >>> 8 % 256 = _
    rw [Nat.shiftRight_eq_div_pow]
    omega
  unfold pairCh
  apply Int32.toBitVec_inj.mp
  apply BitVec.eq_of_toNat_eq
  have f0 : ((0 : Int32) &&& 31) = 0 := by decide
  have f8 : ((8 : Int32) &&& 31) = 8 := by decide
  rw [f0, f8]
  have g : (((lo8 c &&& 255) <<< (0 : Int32)) ||| ((hi8 c &&& 255) <<< (8 : Int32))).toBitVec.toNat = c.toBitVec.toNat := by
    rw [Int32.toBitVec_or, Int32.toBitVec_shiftLeft, Int32.toBitVec_shiftLeft]
    have s0 : ((0 : Int32).toBitVec.smod 32) = 0#32 := by decide
    have s8 : ((8 : Int32).toBitVec.smod 32) = 8#32 := by decide
    rw [s0, s8, BitVec.toNat_or]
    simp only [BitVec.shiftLeft_eq', BitVec.toNat_shiftLeft, a1, a2]
    show (c.toBitVec.toNat % 256) <<< 0 % 2 ^ 32 ||| (c.toBitVec.toNat / 256) <<< 8 % 2 ^ 32 = _
    rw [Nat.shiftLeft_zero, Nat.mod_eq_of_lt (show c.toBitVec.toNat % 256 < 2 ^ 32 by omega), Nat.mod_eq_of_lt (show (c.toBitVec.toNat / 256) <<< 8 < 2 ^ 32 by rw [Nat.shiftLeft_eq]; omega), Nat.or_comm, ← Nat.shiftLeft_add_eq_or_of_lt (by omega), Nat.shiftLeft_eq]
    omega
  show BitVec.toNat (((((lo8 c &&& 255) <<< (0 : Int32)) ||| ((hi8 c &&& 255) <<< (8 : Int32))).toBitVec.setWidth 16).setWidth 32) = _
  rw [BitVec.toNat_setWidth, BitVec.toNat_setWidth, g]
  omega
end StrChars
namespace StrChars
open Jvm Sem ClassFile Op Lib Jvm.Stand Jvm.Free.XT Jvm.Free.ALB Jvm.Free.JM Jvm.Free
open Jvm.Lib.Cold (StaticIs)
theorem shr1 {n : Nat} (h : 2 * n < 2 ^ 31) : Int32.ofNat (2 * n) >>> ((1 : Int32) &&& 31) = Int32.ofNat n := by
  have e : ((1 : Int32) &&& 31) = 1 := by decide
  rw [e]
  apply Int32.toBitVec_inj.mp
  rw [Int32.toBitVec_shiftRight]
  have e1 : ((1 : Int32).toBitVec.smod 32) = 1#32 := by decide
  have hm : (BitVec.ofNat 32 (2 * n)).toNat = 2 * n := by rw [BitVec.toNat_ofNat, Nat.mod_eq_of_lt (by omega)]
  rw [e1, BitVec.sshiftRight_eq']
  apply BitVec.eq_of_toNat_eq
  show ((BitVec.ofNat 32 (2 * n)).sshiftRight 1).toNat = (BitVec.ofNat 32 n).toNat
  rw [BitVec.toNat_sshiftRight_of_msb_false (by rw [BitVec.msb_eq_false_iff_two_mul_lt, hm]; omega), hm, BitVec.toNat_ofNat, Nat.shiftRight_eq_div_pow]
  omega
/-- charAt's cast of a byte read back -/
def chr8 (u : Int32) : Int32 := (u &&& 255).toUInt32.toUInt16.toUInt32.toInt32
theorem chr8_lo8 {c : Int32} (h0 : ¬ c < 0) (h1 : ¬ 255 < c) : chr8 (lo8 c) = c := by
  have t : ∀ k : Fin 256, (Int32.ofNat k.val).toUInt32.toUInt16.toUInt32.toInt32 = Int32.ofNat k.val := by decide +kernel
  unfold chr8
  rw [lo8_mask h0 h1]
  rw [Int32.lt_iff_toInt_lt] at h0 h1
  have e0 : (0 : Int32).toInt = 0 := rfl
  have e1 : (255 : Int32).toInt = 255 := rfl
  obtain ⟨k, hk⟩ : ∃ k : Nat, c.toInt = k := ⟨c.toInt.toNat, by omega⟩
  have hx : c = Int32.ofNat k := Int32.toInt_inj.mp (by rw [hk, Int32.toInt_ofNat_small (by omega)])
  rw [hx]
  exact t ⟨k, by omega⟩
theorem narrow_ch {c : Int32} (h0 : ¬ c < 0) (h1 : ¬ 65535 < c) : narrow .char (.int c) = .int c := by
  have q : narrow .char (.int (pairCh (lo8 c) (hi8 c))) = .int (pairCh (lo8 c) (hi8 c)) := narrow_c _
  rwa [pair_says h0 h1] at q
/-- the array's cell V codes the n chars f 0 .. f (n - 1) by the coder cd, as the JDK does: coder 1 just where some char is above 255 -/
def Cod (cd : Int32) (n : Nat) (f : Nat → Int32) (V : Cell) : Prop := (cd = 0 ∧ V.slots.size = n ∧ ∀ j, j < n → V.slots[j]? = some (.int (lo8 (f j))) ∧ ¬ 255 < f j) ∨ (cd = 1 ∧ V.slots.size = 2 * n ∧ (∀ j, j < n → V.slots[2 * j]? = some (.int (lo8 (f j))) ∧ V.slots[2 * j + 1]? = some (.int (hi8 (f j)))) ∧ ∃ j, j < n ∧ 255 < f j)
theorem Cod.cd {cd : Int32} {n : Nat} {f : Nat → Int32} {V : Cell} (h : Cod cd n f V) : cd = 0 ∨ cd = 1 := h.imp (fun q => q.1) fun q => q.1
theorem Cod.len {cd : Int32} {n : Nat} {f : Nat → Int32} {V : Cell} (h : Cod cd n f V) (hs : V.slots.size < 2 ^ 31) : Int32.ofNat V.slots.size >>> (cd &&& 31) = Int32.ofNat n := by
  rcases h with ⟨rfl, h, -⟩ | ⟨rfl, h, -⟩
  · rw [shr0, h]
  · rw [h, shr1 (by omega)]
/-- **x is a String of the n chars f 0 .. f (n - 1)**, Latin-1 or UTF-16; its array at t has the cell V -/
def Txt (x t : Addr) (V : Cell) (cd : Int32) (n : Nat) (f : Nat → Int32) (U : State) : Prop := Exact "java/lang/String" x U ∧ Has x "java/lang/String" "value" "[B" (.ref t) U ∧ Has x "java/lang/String" "coder" "B" (.int cd) U ∧ XT.Arr .byte t V U ∧ Cod cd n f V ∧ ∀ j, j < n → ¬ f j < 0 ∧ ¬ 65535 < f j
theorem Txt.mv {x t : Addr} {V : Cell} {cd : Int32} {n : Nat} {f : Nat → Int32} {U U' : State} (h : Txt x t V cd n f U) (hal : U.vm.Alike U'.vm) (hh : U'.heap = U.heap) : Txt x t V cd n f U' := ⟨h.1.mv hal hh, h.2.1.mv hal hh, h.2.2.1.mv hal hh, h.2.2.2.1.mv hal hh, h.2.2.2.2⟩
namespace Cdr
def yN : MethodName := ⟨"java/lang/String", "coder", "()B"⟩
abbrev yB : ByteArray := jdk_42_method_152_code
theorem d0 : decode yB 0 = .ok (.getstatic 38, 3) := by decide +kernel
theorem d3 : decode yB 3 = .ok (.ifCond (.eq) 10, 3) := by decide +kernel
theorem d6 : decode yB 6 = .ok (.aload_n 0, 1) := by decide +kernel
theorem d7 : decode yB 7 = .ok (.getfield 15, 3) := by decide +kernel
theorem d10 : decode yB 10 = .ok (.goto 4, 3) := by decide +kernel
theorem d14 : decode yB 14 = .ok (.ireturn, 1) := by decide +kernel
def site : List Cond := [.fieldLink "java/lang/String" 38 "java/lang/String" "COMPACT_STRINGS" "Z", .fieldLink "java/lang/String" 15 "java/lang/String" "coder" "B"]
def tab : Cond := tabOf yN yB 1 (some .byte) site
def P (x : Addr) (cd z : Int32) (args : Array Value) (s : State) : Prop := args = #[.ref x] ∧ Has x "java/lang/String" "coder" "B" (.int cd) s ∧ (cd = 0 ∨ cd = 1) ∧ StaticIs s "java/lang/String" "COMPACT_STRINGS" "Z" (.int z) ∧ ¬ z = 0
def E (cd : Int32) (r : Option Value) (s u : State) : Prop := XT.PureE (some (.int cd)) r s u
theorem law (l : Launch) (x : Addr) (cd z : Int32) : Law l yN 1 0 0 0 yB 1 (some .byte) site (P x cd z) (E cd) [] 0 0 := by
  refine Law.of_walk (plainFor_of_name (by decide +kernel)) (by decide +kernel) (by decide +kernel) (by decide) (fun _ _ h => by rw [h.1]; rfl) (fun _ U U' hal hh h => ⟨h.1, h.2.1.mv hal hh, h.2.2.1, h.2.2.2.1.there hal hh, h.2.2.2.2⟩) (fun r U U' V V' h1 hal h2 h => XT.PureE.mv r U U' V V' h1 hal h2 h) ?_
  intro p e s m args below meth c s₁ X0 hexec hbytes hml hret hlk hnm hown hh0 W hP
  obtain ⟨rfl, hx, hc, s1, hz⟩ := hP
  have c1 : Steps p.tables e below (s₁.setTop (entryFrame m #[.ref x] 1)) (s₁.setTop (mkF m 0 #[.val (.ref x)] [])) := entry rfl
  obtain ⟨T2, X2, q2, st2⟩ := X0.sget hexec hown (wk W (.fieldLink "java/lang/String" 38 "java/lang/String" "COMPACT_STRINGS" "Z")) s1 (fun _ _ h => by rw [hh0]; exact h) (g := (mkF m 0 #[.val (.ref x)] [])) rfl (hb hbytes d0)
  have hh2 := q2.trans hh0
  have c3 : Steps p.tables e below (s₁.setTop (entryFrame m #[.ref x] 1)) (T2.setTop (mkF m 7 #[.val (.ref x)] [.ref x])) := (c1.trans (st2 _ (Steps.refl _))).trans (by
    refine XS.ifNo X2.here hexec rfl (hb hbytes d3) rfl (i0_eq_f hz) ?_
    refine XS.aloadN X2.here hexec rfl (hb hbytes d6) rfl rfl ?_
    exact Steps.refl _)
  obtain ⟨T4, X4, q4, st4⟩ := X2.hget hexec hown (wk W (.fieldLink "java/lang/String" 15 "java/lang/String" "coder" "B")) (hx.mv X2.warmed.alike hh2) (g := (mkF m 7 #[.val (.ref x)] [.ref x])) rfl (rest := []) rfl (hb hbytes d7)
  have c5 : Steps p.tables e below (s₁.setTop (entryFrame m #[.ref x] 1)) (T4.setTop (mkF m 14 #[.val (.ref x)] [.int cd])) := (c3.trans (st4 _ (Steps.refl _))).trans (by
    refine XS.goto X4.here hexec rfl (pc0 := 10) rfl (hb hbytes d10) (by decide) rfl ?_
    exact Steps.refl _)
  exact ⟨T4, some (.int cd), _, _, _, X4, rfl, rfl, rfl, (fun h => by cases h), ⟨rfl, q4.trans hh2⟩, fun fs hl => c5.trans (X4.ireturnOut hexec hret (by rcases hc with rfl | rfl <;> rfl) (Or.inr (Or.inr (Or.inl rfl))) (hb hbytes d14) hl)⟩
end Cdr
namespace Len
def yN : MethodName := ⟨"java/lang/String", "length", "()I"⟩
abbrev yB : ByteArray := jdk_42_method_54_code
theorem d0 : decode yB 0 = .ok (.aload_n 0, 1) := by decide +kernel
theorem d1 : decode yB 1 = .ok (.getfield 9, 3) := by decide +kernel
theorem d4 : decode yB 4 = .ok (.arraylength, 1) := by decide +kernel
theorem d5 : decode yB 5 = .ok (.aload_n 0, 1) := by decide +kernel
theorem d6 : decode yB 6 = .ok (.invokevirtual 335, 3) := by decide +kernel
theorem d9 : decode yB 9 = .ok (.ishr, 1) := by decide +kernel
theorem d10 : decode yB 10 = .ok (.ireturn, 1) := by decide +kernel
def site : List Cond := [.fieldLink "java/lang/String" 9 "java/lang/String" "value" "[B", Cdr.tab] ++ virtW "java/lang/String" 335 "java/lang/String" Cdr.yN Cdr.yN
def tab : Cond := tabOf yN yB 1 (some .int) site
def P (x t : Addr) (V : Cell) (cd : Int32) (n : Nat) (f : Nat → Int32) (z : Int32) (args : Array Value) (s : State) : Prop := args = #[.ref x] ∧ Txt x t V cd n f s ∧ StaticIs s "java/lang/String" "COMPACT_STRINGS" "Z" (.int z) ∧ ¬ z = 0
def E (n : Nat) (r : Option Value) (s u : State) : Prop := XT.PureE (some (.int (Int32.ofNat n))) r s u
/-- length() of a String of n chars, in either coding -/
theorem law (l : Launch) (x t : Addr) (V : Cell) (cd : Int32) (n : Nat) (f : Nat → Int32) (z : Int32) : Law l yN 1 0 1 13 yB 1 (some .int) site (P x t V cd n f z) (E n) [] 0 0 := by
  refine Law.of_walk (plainFor_of_name (by decide +kernel)) (by decide +kernel) (by decide +kernel) (by decide) (fun _ _ h => by rw [h.1]; rfl) (fun _ U U' hal hh h => ⟨h.1, h.2.1.mv hal hh, h.2.2.1.there hal hh, h.2.2.2⟩) (fun r U U' V V' h1 hal h2 h => XT.PureE.mv r U U' V V' h1 hal h2 h) ?_
  intro p e s m args below meth c s₁ X0 hexec hbytes hml hret hlk hnm hown hh0 W hP
  obtain ⟨rfl, hx, s1, hz⟩ := hP
  have v31 := hx.2.2.2.1.2.2.2
  have c1 : Steps p.tables e below (s₁.setTop (entryFrame m #[.ref x] 1)) (s₁.setTop (mkF m 1 #[.val (.ref x)] [.ref x])) := Steps.trans (entry rfl) (by
    show Steps p.tables e below (s₁.setTop (mkF m 0 #[.val (.ref x)] [])) _
    refine XS.aloadN X0.here hexec rfl (hb hbytes d0) rfl rfl ?_
    exact Steps.refl _)
  obtain ⟨T2, X2, q2, st2⟩ := X0.hget hexec hown (wk W (.fieldLink "java/lang/String" 9 "java/lang/String" "value" "[B")) (hx.mv X0.warmed.alike hh0).2.1 (g := (mkF m 1 #[.val (.ref x)] [.ref x])) rfl (rest := []) rfl (hb hbytes d1)
  have hh2 := q2.trans hh0
  have hx2 := hx.mv X2.warmed.alike hh2
  have c3 : Steps p.tables e below (s₁.setTop (entryFrame m #[.ref x] 1)) (T2.setTop (mkF m 6 #[.val (.ref x)] [.ref x, .int (Int32.ofNat V.slots.size)])) := (c1.trans (st2 _ (Steps.refl _))).trans (by
    refine X2.alen hexec hx2.2.2.2.1 rfl rfl (hb hbytes d4) ?_
    refine XS.aloadN X2.here hexec rfl (hb hbytes d5) rfl rfl ?_
    exact Steps.refl _)
  obtain ⟨v4, T4, X4, E4, g4⟩ := X2.callV hexec (Cdr.law l x cd z) hown (wks W (virtW "java/lang/String" 335 "java/lang/String" Cdr.yN Cdr.yN)) rfl (by decide) (wk W Cdr.tab) (W := 1) (Nat.le_of_ble_eq_true rfl) (Nat.le_of_ble_eq_true rfl) (Nat.le_refl _) (Nat.le_refl _) (hx2.1.fc X2.warmed.alike) hx2.1.is (g := (mkF m 6 #[.val (.ref x)] [.ref x, .int (Int32.ofNat V.slots.size)])) rfl (by rw [hml]; rfl) c3 (argsL := []) (rest := [.int (Int32.ofNat V.slots.size)]) rfl rfl (by show 2 * 0 + (1 + 0) ≤ _; decide) (hb hbytes d6) (⟨rfl, hx2.2.2.1, hx.2.2.2.2.1.cd, s1.there X2.warmed.alike hh2, hz⟩)
  obtain ⟨rfl, q4⟩ := E4
  have c5 : Steps p.tables e below (s₁.setTop (entryFrame m #[.ref x] 1)) (T4.setTop (mkF m 10 #[.val (.ref x)] [.int (Int32.ofNat V.slots.size >>> (cd &&& 31))])) := Steps.trans g4 (by
    refine ishr X4.here hexec rfl (hb hbytes d9) rfl ?_
    exact Steps.refl _)
  rw [hx.2.2.2.2.1.len v31] at c5
  exact ⟨T4, some (.int (Int32.ofNat n)), _, _, _, X4, rfl, rfl, rfl, (fun h => by cases h), ⟨rfl, q4.trans hh2⟩, fun fs hl => c5.trans (X4.ireturnOut hexec hret rfl (Or.inl rfl) (hb hbytes d10) hl)⟩
theorem pays {l : Launch} {R : Room} {p : Program} {e : Env} {below : List Frame} {s : State} {sargs : Array Value} {len W : Nat} (x t : Addr) (V : Cell) (cd : Int32) (n : Nat) (f : Nat → Int32) (z : Int32) (htab : tab.before sargs s = true) (hfr : 2 ≤ R.frames) (hlo : W + 25 ≤ R.locals) :
    Back l R p e below s sargs yN len W (fun A₁ a₁ => A₁.cells + 0 ≤ R.cells ∧ A₁.slots + 0 ≤ R.slots ∧ P x t V cd n f z a₁ A₁.U) (fun A₁ _ v₁ B₁ => E n v₁ A₁.U B₁.U ∧ B₁.locs = A₁.locs ++ [] ∧ B₁.cells = A₁.cells + 0 ∧ B₁.slots = A₁.slots + 0) :=
  (law l x t V cd n f z).pays htab hfr (by omega)
end Len
namespace IsL
def yN : MethodName := ⟨"java/lang/String", "isLatin1", "()Z"⟩
abbrev yB : ByteArray := jdk_42_method_154_code
theorem d0 : decode yB 0 = .ok (.getstatic 38, 3) := by decide +kernel
theorem d3 : decode yB 3 = .ok (.ifCond (.eq) 14, 3) := by decide +kernel
theorem d6 : decode yB 6 = .ok (.aload_n 0, 1) := by decide +kernel
theorem d7 : decode yB 7 = .ok (.getfield 15, 3) := by decide +kernel
theorem d10 : decode yB 10 = .ok (.ifCond (.ne) 7, 3) := by decide +kernel
theorem d13 : decode yB 13 = .ok (.iconst 1, 1) := by decide +kernel
theorem d14 : decode yB 14 = .ok (.goto 4, 3) := by decide +kernel
theorem d17 : decode yB 17 = .ok (.iconst 0, 1) := by decide +kernel
theorem d18 : decode yB 18 = .ok (.ireturn, 1) := by decide +kernel
def site : List Cond := [.fieldLink "java/lang/String" 38 "java/lang/String" "COMPACT_STRINGS" "Z", .fieldLink "java/lang/String" 15 "java/lang/String" "coder" "B"]
def tab : Cond := tabOf yN yB 1 (some .boolean) site
def P (x : Addr) (cd z : Int32) (args : Array Value) (s : State) : Prop := args = #[.ref x] ∧ Has x "java/lang/String" "coder" "B" (.int cd) s ∧ (cd = 0 ∨ cd = 1) ∧ StaticIs s "java/lang/String" "COMPACT_STRINGS" "Z" (.int z) ∧ ¬ z = 0
def E (cd : Int32) (r : Option Value) (s u : State) : Prop := XT.PureE (some (.int (1 - cd))) r s u
theorem law (l : Launch) (x : Addr) (cd z : Int32) : Law l yN 1 0 0 0 yB 1 (some .boolean) site (P x cd z) (E cd) [] 0 0 := by
  refine Law.of_walk (plainFor_of_name (by decide +kernel)) (by decide +kernel) (by decide +kernel) (by decide) (fun _ _ h => by rw [h.1]; rfl) (fun _ U U' hal hh h => ⟨h.1, h.2.1.mv hal hh, h.2.2.1, h.2.2.2.1.there hal hh, h.2.2.2.2⟩) (fun r U U' V V' h1 hal h2 h => XT.PureE.mv r U U' V V' h1 hal h2 h) ?_
  intro p e s m args below meth c s₁ X0 hexec hbytes hml hret hlk hnm hown hh0 W hP
  obtain ⟨rfl, hx, hc, s1, hz⟩ := hP
  have c1 : Steps p.tables e below (s₁.setTop (entryFrame m #[.ref x] 1)) (s₁.setTop (mkF m 0 #[.val (.ref x)] [])) := entry rfl
  obtain ⟨T2, X2, q2, st2⟩ := X0.sget hexec hown (wk W (.fieldLink "java/lang/String" 38 "java/lang/String" "COMPACT_STRINGS" "Z")) s1 (fun _ _ h => by rw [hh0]; exact h) (g := (mkF m 0 #[.val (.ref x)] [])) rfl (hb hbytes d0)
  have hh2 := q2.trans hh0
  have c3 : Steps p.tables e below (s₁.setTop (entryFrame m #[.ref x] 1)) (T2.setTop (mkF m 7 #[.val (.ref x)] [.ref x])) := (c1.trans (st2 _ (Steps.refl _))).trans (by
    refine XS.ifNo X2.here hexec rfl (hb hbytes d3) rfl (i0_eq_f hz) ?_
    refine XS.aloadN X2.here hexec rfl (hb hbytes d6) rfl rfl ?_
    exact Steps.refl _)
  obtain ⟨T4, X4, q4, st4⟩ := X2.hget hexec hown (wk W (.fieldLink "java/lang/String" 15 "java/lang/String" "coder" "B")) (hx.mv X2.warmed.alike hh2) (g := (mkF m 7 #[.val (.ref x)] [.ref x])) rfl (rest := []) rfl (hb hbytes d7)
  have c5 : Steps p.tables e below (s₁.setTop (entryFrame m #[.ref x] 1)) (T4.setTop (mkF m 10 #[.val (.ref x)] [.int cd])) := c3.trans (st4 _ (Steps.refl _))
  have c6 : Steps p.tables e below (s₁.setTop (entryFrame m #[.ref x] 1)) (T4.setTop (mkF m 18 #[.val (.ref x)] [.int (1 - cd)])) := by
    rcases hc with rfl | rfl
    · exact c5.trans (by
        refine XS.ifNo X4.here hexec rfl (hb hbytes d10) rfl (i0_ne_f rfl) ?_
        refine iconstV X4.here hexec rfl 1 (hb hbytes d13) (by decide) ?_
        refine XS.goto X4.here hexec rfl (pc0 := 14) rfl (hb hbytes d14) (by decide) rfl ?_
        exact Steps.refl _)
    · exact c5.trans (by
        refine XS.ifYes X4.here hexec rfl (pc0 := 10) rfl (hb hbytes d10) rfl (i0_ne_t (by decide)) (by decide) rfl ?_
        refine iconstV X4.here hexec rfl 0 (hb hbytes d17) (by decide) ?_
        exact Steps.refl _)
  exact ⟨T4, some (.int (1 - cd)), _, _, _, X4, rfl, rfl, rfl, (fun h => by cases h), ⟨rfl, q4.trans hh2⟩, fun fs hl => c6.trans (X4.ireturnOut hexec hret (by rcases hc with rfl | rfl <;> rfl) (Or.inr (Or.inl rfl)) (hb hbytes d18) hl)⟩
end IsL
namespace LChA
def yN : MethodName := ⟨"java/lang/StringLatin1", "charAt", "([BI)C"⟩
abbrev yB : ByteArray := jdk_43_method_2_code
theorem d0 : decode yB 0 = .ok (.iload_n 1, 1) := by decide +kernel
theorem d1 : decode yB 1 = .ok (.aload_n 0, 1) := by decide +kernel
theorem d2 : decode yB 2 = .ok (.arraylength, 1) := by decide +kernel
theorem d3 : decode yB 3 = .ok (.invokestatic 9, 3) := by decide +kernel
theorem d6 : decode yB 6 = .ok (.aload_n 0, 1) := by decide +kernel
theorem d7 : decode yB 7 = .ok (.iload_n 1, 1) := by decide +kernel
theorem d8 : decode yB 8 = .ok (.baload, 1) := by decide +kernel
theorem d9 : decode yB 9 = .ok (.sipush 255, 3) := by decide +kernel
theorem d12 : decode yB 12 = .ok (.iand, 1) := by decide +kernel
theorem d13 : decode yB 13 = .ok (.i2c, 1) := by decide +kernel
theorem d14 : decode yB 14 = .ok (.ireturn, 1) := by decide +kernel
def site : List Cond := [JO.Str_checkIndex.tab] ++ staticW "java/lang/StringLatin1" 9 JO.Str_checkIndex.yN
def tab : Cond := tabOf yN yB 2 (some .char) site
def P (t : Addr) (V : Cell) (i : Nat) (u : Int32) (fm : Value) (args : Array Value) (s : State) : Prop := args = #[.ref t, .int (Int32.ofNat i)] ∧ XT.Arr .byte t V s ∧ V.slots[i]? = some (.int u) ∧ (StaticIs s "jdk/internal/util/Preconditions" "SIOOBE_FORMATTER" "Ljava/util/function/BiFunction;" fm ∧ fm.isRef = true)
def E (u : Int32) (r : Option Value) (s w : State) : Prop := XT.PureE (some (.int (chr8 u))) r s w
theorem law (l : Launch) (t : Addr) (V : Cell) (i : Nat) (u : Int32) (fm : Value) : Law l yN 2 2 2 27 yB 2 (some .char) site (P t V i u fm) (E u) [] 0 0 := by
  refine Law.of_walk (plainFor_of_name (by decide +kernel)) (by decide +kernel) (by decide +kernel) (by decide) (fun _ _ h => by rw [h.1]; rfl) (fun _ U U' hal hh h => ⟨h.1, h.2.1.mv hal hh, h.2.2.1, h.2.2.2.1.there hal hh, h.2.2.2.2⟩) (fun r U U' V V' h1 hal h2 h => XT.PureE.mv r U U' V V' h1 hal h2 h) ?_
  intro p e s m args below meth c s₁ X0 hexec hbytes hml hret hlk hnm hown hh0 W hP
  obtain ⟨rfl, hV, hu, s1, rf⟩ := hP
  have v31 := hV.2.2.2
  have hi : i < V.slots.size := (Array.getElem?_eq_some_iff.mp hu).1
  have c1 : Steps p.tables e below (s₁.setTop (entryFrame m #[.ref t, .int (Int32.ofNat i)] 2)) (s₁.setTop (mkF m 0 #[.val (.ref t), .val (.int (Int32.ofNat i))] [])) := entry rfl
  have c2 : Steps p.tables e below (s₁.setTop (entryFrame m #[.ref t, .int (Int32.ofNat i)] 2)) (s₁.setTop (mkF m 3 #[.val (.ref t), .val (.int (Int32.ofNat i))] [.int (Int32.ofNat V.slots.size), .int (Int32.ofNat i)])) := c1.trans (by
    refine XS.iloadN X0.here hexec rfl (hb hbytes d0) rfl ?_
    refine XS.aloadN X0.here hexec rfl (hb hbytes d1) rfl rfl ?_
    refine X0.alen hexec (hV.mv X0.warmed.alike hh0) rfl rfl (hb hbytes d2) ?_
    exact Steps.refl _)
  obtain ⟨v3, T3, X3, E3, g3⟩ := X0.callS hexec (JO.Str_checkIndex.law l (Int32.ofNat i) (Int32.ofNat V.slots.size) fm) hown (wks W (staticW "java/lang/StringLatin1" 9 JO.Str_checkIndex.yN)) (wk W JO.Str_checkIndex.tab) (W := 0) (Nat.le_of_ble_eq_true rfl) (Nat.le_of_ble_eq_true rfl) (Nat.le_refl _) (Nat.le_refl _) (g := (mkF m 3 #[.val (.ref t), .val (.int (Int32.ofNat i))] [.int (Int32.ofNat V.slots.size), .int (Int32.ofNat i)])) rfl (by rw [hml]; rfl) c2 (argsL := [.int (Int32.ofNat i), .int (Int32.ofNat V.slots.size)]) (rest := []) rfl rfl (by show 2 * 0 + 0 ≤ _; decide) (hb hbytes d3) (⟨rfl, rf, s1.there X0.warmed.alike hh0, Int32.ofNat_not_neg (by omega), lt32 v31 hi⟩)
  obtain ⟨rfl, q3⟩ := E3
  have hh3 := q3.trans hh0
  have c4 : Steps p.tables e below (s₁.setTop (entryFrame m #[.ref t, .int (Int32.ofNat i)] 2)) (T3.setTop (mkF m 14 #[.val (.ref t), .val (.int (Int32.ofNat i))] [.int (chr8 u)])) := Steps.trans g3 (by
    refine XS.aloadN X3.here hexec rfl (hb hbytes d6) rfl rfl ?_
    refine XS.iloadN X3.here hexec rfl (hb hbytes d7) rfl ?_
    refine X3.aget hexec (hV.mv X3.warmed.alike hh3) rfl hu rfl rfl (hb hbytes d8) ?_
    refine sipushV X3.here hexec rfl 255 (hb hbytes d9) (by decide) ?_
    refine XS.iand X3.here hexec rfl (hb hbytes d12) rfl ?_
    refine i2c X3.here hexec rfl (hb hbytes d13) rfl ?_
    exact Steps.refl _)
  exact ⟨T3, some (.int (chr8 u)), _, _, _, X3, rfl, rfl, rfl, (fun h => by cases h), ⟨rfl, hh3⟩, fun fs hl => c4.trans (X3.ireturnOut hexec hret (narrow_c _) (Or.inr (Or.inr (Or.inr (Or.inl rfl)))) (hb hbytes d14) hl)⟩
end LChA
end StrChars
namespace StrChars.Road
open Jvm Sem ClassFile Op Lib Jvm.Stand Jvm.Free Jvm.Free.XT
open Jvm.Lib.Cold (StaticIs)
theorem consq {a : Array Value} {s : State} {c : Jvm.Cond} {L : List Jvm.Cond} (h0 : c.before a s = true) (h : ∀ w ∈ L, w.before a s = true) : ∀ w ∈ c :: L, w.before a s = true := fun w hw => (List.mem_cons.mp hw).elim (fun e => e ▸ h0) (h w)
/-- the words of String.length(), either coding -/
abbrev wordsLen : List Jvm.Cond := [.code Len.yN Len.yB 1 (some .int), .initialized ST, .fieldLink ST 9 ST "value" "[B", .fieldLink ST 38 ST "COMPACT_STRINGS" "Z", .fieldLink ST 15 ST "coder" "B", .code Cdr.yN Cdr.yB 1 (some .byte), .methodLink ST 335 Cdr.yN, .declares Cdr.yN, .selects ST Cdr.yN Cdr.yN, .instanceMethod Cdr.yN]
theorem tabLen_of {a : Array Value} {s : State} (h : ∀ w ∈ wordsLen, w.before a s = true) : Len.tab.before a s = true := by
  have hc : Cdr.tab.before a s = true := unparts (wk h (.code Cdr.yN Cdr.yB 1 (some .byte))) (wks h (.initialized Cdr.yN.cls :: Cdr.site))
  have q := consq hc h
  exact unparts (wk q (.code Len.yN Len.yB 1 (some .int))) (wks q (.initialized Len.yN.cls :: Len.site))
theorem movedLen {Z s : State} {a0 args : Array Value} (hZ : Z.Warmed39 s.vm) (hw : ∀ d ∈ wordsLen, d.before a0 Z = true) : ∀ d ∈ wordsLen, d.before args s = true := fun d hd => by
  have q := hw d hd
  have t : ∀ d ∈ wordsLen, d = .arrayClass .byte ∨ (d.onTables && d.keepsFace) = true := by decide +kernel
  rcases t d hd with rfl | t
  · exact RoadKit.mvA hZ q
  · exact RoadKit.mv hZ q t
/-- the bytes of the chars cs, low before high -/
def wideBytes : List Int32 → List Value
  | [] => []
  | c :: cs => .int (lo8 c) :: .int (hi8 c) :: wideBytes cs
theorem wide_lo (d : Value) : ∀ (cs : List Int32) (j : Nat), j < cs.length → (wideBytes cs).getD (2 * j) d = .int (lo8 (cs.getD j 0))
  | [], j, h => absurd h (Nat.not_lt_zero j)
  | c :: cs, 0, _ => rfl
  | c :: cs, j + 1, h => by
    have q := wide_lo d cs j (by simpa using h)
    rw [show 2 * (j + 1) = 2 * j + 1 + 1 from by omega]
    simpa [wideBytes] using q
theorem wide_hi (d : Value) : ∀ (cs : List Int32) (j : Nat), j < cs.length → (wideBytes cs).getD (2 * j + 1) d = .int (hi8 (cs.getD j 0))
  | [], j, h => absurd h (Nat.not_lt_zero j)
  | c :: cs, 0, _ => rfl
  | c :: cs, j + 1, h => by
    have q := wide_hi d cs j (by simpa using h)
    rw [show 2 * (j + 1) + 1 = 2 * j + 1 + 1 + 1 from by omega]
    simpa [wideBytes] using q
theorem low_at (d : Value) (cs : List Int32) (j : Nat) (h : j < cs.length) : (cs.map fun c => Value.int (lo8 c)).getD j d = .int (lo8 (cs.getD j 0)) := by
  simp [List.getD_eq_getElem?_getD, h]
/-- an array of N2 bytes vs codes the chars cs by the coder cd -/
def CodA (cs : List Int32) (cd N2 : Int32) (vs : List Value) : Prop := (cd = 0 ∧ N2 = Int32.ofNat cs.length ∧ vs = (cs.map fun c => Value.int (lo8 c)) ∧ ∀ c ∈ cs, ¬ 255 < c) ∨ (cd = 1 ∧ N2 = Int32.ofNat (2 * cs.length) ∧ vs = wideBytes cs ∧ ∃ c ∈ cs, 255 < c)
theorem CodA.cod {cs : List Int32} {cd N2 : Int32} {vs : List Value} {V : Cell} (h : CodA cs cd N2 vs) (hn : 2 * cs.length < 2 ^ 31) (hs : V.slots.size = N2.toNatClampNeg) (hv : RoadKit.Has V vs (.int 0)) : Cod cd cs.length (fun j => cs.getD j 0) V := by
  rcases h with ⟨rfl, rfl, rfl, h⟩ | ⟨rfl, rfl, rfl, c, hc, hw⟩
  · rw [n32 (by omega)] at hs
    exact Or.inl ⟨rfl, hs, fun j hj => ⟨by rw [hv j (by omega), low_at _ _ _ hj], by
      have e : cs.getD j 0 = cs[j] := by simp [List.getD_eq_getElem?_getD, hj]
      show ¬ 255 < cs.getD j 0
      rw [e]; exact h _ (List.getElem_mem _)⟩⟩
  · rw [n32 (by omega)] at hs
    obtain ⟨j, hj, rfl⟩ := List.getElem_of_mem hc
    exact Or.inr ⟨rfl, hs, fun j hj => ⟨by rw [hv _ (by omega), wide_lo _ _ _ hj], by rw [hv _ (by omega), wide_hi _ _ _ hj]⟩, j, hj, by
      have e : cs.getD j 0 = cs[j] := by simp [List.getD_eq_getElem?_getD, hj]
      show 255 < cs.getD j 0
      rw [e]; exact hw⟩
/-- an object of exactly java/lang/String, its two fields found: as the laws ask it -/
theorem strObj {Z U : State} {a0 : Array Value} {kI : Nat} (wi : (Jvm.Cond.instantiable ST kI).before a0 Z = true) (al : Z.vm.Alike U.vm) {x : Addr} {v0 c0 : Value} (E : RoadKit.Exa Z U.heap x ST) (V : RoadKit.Fld Z U.heap x ST "value" "[B" v0) (C : RoadKit.Fld Z U.heap x ST "coder" "B" c0) :
    ∃ (D : Cell) (fV fC : Field), Blank ST x D U ∧ Found ST "value" "[B" fV U ∧ Found ST "coder" "B" fC U ∧ D.slots[fV.slot]? = some v0 ∧ D.slots[fC.slot]? = some c0 ∧ RoadKit.slotOf Z ST "value" "[B" = fV.slot ∧ RoadKit.slotOf Z ST "coder" "B" = fC.slot := by
  obtain ⟨D, cfV, kV, iV, fV, hD, gV, stV, knV, obV, asV, slV⟩ := V
  obtain ⟨D', cfC, kC, iC, fC, hD', gC, stC, -, -, asC, slC⟩ := C
  cases hD.symm.trans hD'
  obtain ⟨D2, kD, e1, e2, e3, e4, e5⟩ := E
  cases hD.symm.trans e1
  obtain ⟨c2, k2, i1, i2, i3, -⟩ := Cond.instantiable_spec wi
  cases e2.symm.trans i1
  cases e3.symm.trans i2
  obtain ⟨kU, u1, u2⟩ := al.2.2 _ _ e3
  exact ⟨D, fV, fC, ⟨hD, ⟨knV, fun q hq => by rw [hq] at obV; cases obV⟩, by rw [al.findClass]; exact e2, kU, u1, by rw [u2]; exact i3, by rw [u2]; exact e5 i3⟩, ⟨SBG.found_only al ⟨cfV, kV, iV, gV⟩, stV⟩, ⟨SBG.found_only al ⟨cfC, kC, iC, gC⟩, stC⟩, slV, slC, by simp [RoadKit.slotOf, gV], by simp [RoadKit.slotOf, gC]⟩
theorem sta_is {Z U : State} (al : Z.vm.Alike U.vm) {C n d : String} {v : Value} (S : RoadKit.Sta Z U.heap C n d v) : StaticIs U C n d v := by
  obtain ⟨cfS, iS, kS, fS, st, cS, t1, t2, t3, t4, t5, t6, t7⟩ := S
  exact StaticIs.there (s := { Z with heap := U.heap }) ⟨cfS, iS, kS, fS, st, cS, t1, t2, t3, t4, t5, (fun q => by rw [q] at t6; cases t6), t7⟩ al rfl
/-- **length() OF SUCH A STRING** -/
theorem lenW {p : Program} {l : Launch} {e : Env} {R : Room} {s : State} {args : Array Value} {below : List Frame} {len W : Nat} {Z : State} {a0 : Array Value} {h : Heap} (hZ : Z.Warmed39 s.vm) (hw : ∀ d ∈ wordsLen, d.before a0 Z = true) {kI : Nat} (wi : (Jvm.Cond.instantiable ST kI).before a0 Z = true)
    {x t : Addr} {kb : ClassId} {cs : List Int32} {cd N2 z : Int32} {vs : List Value} (E : RoadKit.Exa Z h x ST) (V : RoadKit.Fld Z h x ST "value" "[B" (.ref t)) (C : RoadKit.Fld Z h x ST "coder" "B" (.int cd)) (K : RoadKit.Arv Z h t kb .byte N2 vs (.int 0)) (hc : CodA cs cd N2 vs) (hb : ∀ c ∈ cs, ¬ c < 0 ∧ ¬ (65535 : Int32) < c)
    (S : RoadKit.Sta Z h ST "COMPACT_STRINGS" "Z" (.int z)) (hz : ¬ z = 0) (l2 : cs.length ≤ 4000) (hfr : 2 ≤ R.frames) (hlo : W + 25 ≤ R.locals) :
    Back l R p e below s args (⟨"java/lang/String", "length", "()I"⟩ : MethodName) len W (fun P a => a = #[.ref x] ∧ P.U.heap = h ∧ P.cells + 0 ≤ R.cells ∧ P.slots + 0 ≤ R.slots)
      (fun P _ v B => ∃ L, (v = some (.int (Int32.ofNat cs.length)) ∧ L = [] ∧ B.U.heap = h) ∧ B.locs = P.locs ++ L ∧ B.cells = P.cells + 0 ∧ B.slots = P.slots + 0) := by
  obtain ⟨A, K1, K2, K3, K4, K5, K6⟩ := K
  have hcod := hc.cod (by omega) K3 K5
  intro m meth c P g ig mk a X hg hsize hdg hW hn hp'
  obtain ⟨rfl, rfl, r1, r2⟩ := hp'
  have al : Z.vm.Alike P.U.vm := hZ.alike.trans X.warmed.alike
  obtain ⟨D, fV, fC, hB, F1, F2, g1, g2, -, -⟩ := strObj wi al E V C
  have hx : Txt x t A cd cs.length (fun j => cs.getD j 0) P.U := ⟨⟨_, hB.2.2.1, D, hB.1, rfl, by cases q : D.vm <;> first | rfl | exact absurd q (hB.2.1.2 _)⟩, Has.of hB F1 g1, Has.of hB F2 g2, ⟨K1.1, State.isArrayOf_alike al K1.2.1, K1.2.2, by rcases hcod with ⟨-, q, -⟩ | ⟨-, q, -⟩ <;> omega⟩, hcod, fun j hj => by
    have e : cs.getD j 0 = cs[j] := by simp [List.getD_eq_getElem?_getD, hj]
    show ¬ cs.getD j 0 < 0 ∧ ¬ 65535 < cs.getD j 0
    rw [e]; exact hb _ (List.getElem_mem _)⟩
  obtain ⟨v, B, X', ⟨⟨hv, hh⟩, hl, hk, hs⟩, st⟩ := Len.pays x t A cd cs.length (fun j => cs.getD j 0) z (tabLen_of (movedLen hZ hw)) hfr hlo m meth c P g ig mk _ X hg hsize hdg hW hn ⟨r1, r2, rfl, hx, sta_is al S, hz⟩
  exact ⟨v, B, X', ⟨[], ⟨hv, rfl, hh⟩, hl, hk, hs⟩, st⟩
end StrChars.Road
namespace StrChars
open Jvm Sem ClassFile Op Lib Jvm.Stand Jvm.Free.XT Jvm.Free.ALB Jvm.Free.JM Jvm.Free
open Jvm.Lib.Cold (StaticIs)
namespace Emp
def yN : MethodName := ⟨"java/lang/String", "isEmpty", "()Z"⟩
abbrev yB : ByteArray := jdk_42_method_55_code
theorem d0 : decode yB 0 = .ok (.aload_n 0, 1) := by decide +kernel
theorem d1 : decode yB 1 = .ok (.getfield 9, 3) := by decide +kernel
theorem d4 : decode yB 4 = .ok (.arraylength, 1) := by decide +kernel
theorem d5 : decode yB 5 = .ok (.ifCond (.ne) 7, 3) := by decide +kernel
theorem d8 : decode yB 8 = .ok (.iconst 1, 1) := by decide +kernel
theorem d9 : decode yB 9 = .ok (.goto 4, 3) := by decide +kernel
theorem d12 : decode yB 12 = .ok (.iconst 0, 1) := by decide +kernel
theorem d13 : decode yB 13 = .ok (.ireturn, 1) := by decide +kernel
def site : List Cond := [.fieldLink "java/lang/String" 9 "java/lang/String" "value" "[B"]
def tab : Cond := tabOf yN yB 1 (some .boolean) site
def P (x t : Addr) (V : Cell) (cd : Int32) (n : Nat) (f : Nat → Int32) (args : Array Value) (s : State) : Prop := args = #[.ref x] ∧ Txt x t V cd n f s
def E (n : Nat) (r : Option Value) (s u : State) : Prop := XT.PureE (some (.int (if n = 0 then 1 else 0))) r s u
/-- isEmpty() of a String of n chars -/
theorem law (l : Launch) (x t : Addr) (V : Cell) (cd : Int32) (n : Nat) (f : Nat → Int32) : Law l yN 1 0 0 0 yB 1 (some .boolean) site (P x t V cd n f) (E n) [] 0 0 := by
  refine Law.of_walk (plainFor_of_name (by decide +kernel)) (by decide +kernel) (by decide +kernel) (by decide) (fun _ _ h => by rw [h.1]; rfl) (fun _ U U' hal hh h => ⟨h.1, h.2.mv hal hh⟩) (fun r U U' V V' h1 hal h2 h => XT.PureE.mv r U U' V V' h1 hal h2 h) ?_
  intro p e s m args below meth c s₁ X0 hexec hbytes hml hret hlk hnm hown hh0 W hP
  obtain ⟨rfl, hx⟩ := hP
  have v31 := hx.2.2.2.1.2.2.2
  have c1 : Steps p.tables e below (s₁.setTop (entryFrame m #[.ref x] 1)) (s₁.setTop (mkF m 1 #[.val (.ref x)] [.ref x])) := Steps.trans (entry rfl) (by
    show Steps p.tables e below (s₁.setTop (mkF m 0 #[.val (.ref x)] [])) _
    refine XS.aloadN X0.here hexec rfl (hb hbytes d0) rfl rfl ?_
    exact Steps.refl _)
  obtain ⟨T2, X2, q2, st2⟩ := X0.hget hexec hown (wk W (.fieldLink "java/lang/String" 9 "java/lang/String" "value" "[B")) (hx.mv X0.warmed.alike hh0).2.1 (g := (mkF m 1 #[.val (.ref x)] [.ref x])) rfl (rest := []) rfl (hb hbytes d1)
  have hh2 := q2.trans hh0
  have hx2 := hx.mv X2.warmed.alike hh2
  have c3 : Steps p.tables e below (s₁.setTop (entryFrame m #[.ref x] 1)) (T2.setTop (mkF m 5 #[.val (.ref x)] [.int (Int32.ofNat V.slots.size)])) := (c1.trans (st2 _ (Steps.refl _))).trans (by
    refine X2.alen hexec hx2.2.2.2.1 rfl rfl (hb hbytes d4) ?_
    exact Steps.refl _)
  have hz : V.slots.size = 0 ↔ n = 0 := by
    rcases hx.2.2.2.2.1 with ⟨-, q, -⟩ | ⟨-, q, -⟩ <;> omega
  by_cases h0 : n = 0
  · have c4 : Steps p.tables e below (s₁.setTop (entryFrame m #[.ref x] 1)) (T2.setTop (mkF m 13 #[.val (.ref x)] [.int 1])) := c3.trans (by
      refine XS.ifNo X2.here hexec rfl (hb hbytes d5) rfl (i0_ne_f (by rw [hz.mpr h0]; rfl)) ?_
      refine iconstV X2.here hexec rfl 1 (hb hbytes d8) (by decide) ?_
      refine XS.goto X2.here hexec rfl (pc0 := 9) rfl (hb hbytes d9) (by decide) rfl ?_
      exact Steps.refl _)
    exact ⟨T2, some (.int 1), _, _, _, X2, rfl, rfl, rfl, (fun h => by cases h), ⟨by rw [if_pos h0], hh2⟩, fun fs hl => c4.trans (X2.ireturnOut hexec hret rfl (Or.inr (Or.inl rfl)) (hb hbytes d13) hl)⟩
  · have c4 : Steps p.tables e below (s₁.setTop (entryFrame m #[.ref x] 1)) (T2.setTop (mkF m 13 #[.val (.ref x)] [.int 0])) := c3.trans (by
      refine XS.ifYes X2.here hexec rfl (pc0 := 5) rfl (hb hbytes d5) rfl (i0_ne_t (nz32 v31 (by omega))) (by decide) rfl ?_
      refine iconstV X2.here hexec rfl 0 (hb hbytes d12) (by decide) ?_
      exact Steps.refl _)
    exact ⟨T2, some (.int 0), _, _, _, X2, rfl, rfl, rfl, (fun h => by cases h), ⟨by rw [if_neg h0], hh2⟩, fun fs hl => c4.trans (X2.ireturnOut hexec hret rfl (Or.inr (Or.inl rfl)) (hb hbytes d13) hl)⟩
theorem pays {l : Launch} {R : Room} {p : Program} {e : Env} {below : List Frame} {s : State} {sargs : Array Value} {len W : Nat} (x t : Addr) (V : Cell) (cd : Int32) (n : Nat) (f : Nat → Int32) (htab : tab.before sargs s = true) (hfr : 1 ≤ R.frames) (hlo : W + 12 ≤ R.locals) :
    Back l R p e below s sargs yN len W (fun A₁ a₁ => A₁.cells + 0 ≤ R.cells ∧ A₁.slots + 0 ≤ R.slots ∧ P x t V cd n f a₁ A₁.U) (fun A₁ _ v₁ B₁ => E n v₁ A₁.U B₁.U ∧ B₁.locs = A₁.locs ++ [] ∧ B₁.cells = A₁.cells + 0 ∧ B₁.slots = A₁.slots + 0) :=
  (law l x t V cd n f).pays htab hfr (by omega)
end Emp
/-- what place i of a byte[]'s cell holds -/
def yv (A : Cell) (i : Nat) : Int32 := match A.slots[i]? with | some (.int x) => x | _ => 0
theorem yv_get {a : Addr} {A : Cell} {U : State} (h : XT.Arr .byte a A U) (ht : Typed .byte A) {i : Nat} (hi : i < A.slots.size) : A.slots[i]? = some (.int (yv A i)) := by
  have e := Array.getElem?_eq_getElem hi
  have f := ht i _ e
  unfold yv; rw [e]
  generalize A.slots[i] = v at f
  cases v <;> simp [fits] at f ⊢
/-- the two arrays are equal, place for place -/
def EqC (A B : Cell) : Prop := A.slots.size = B.slots.size ∧ ∀ i, i < A.slots.size → yv A i = yv B i
/-- a boolean that says whether p -/
def Says01 (q : Prop) (r : Option Value) (s u : State) : Prop := ∃ v : Int32, r = some (.int v) ∧ u.heap = s.heap ∧ ((v = 1 ∧ q) ∨ (v = 0 ∧ ¬ q))
theorem Says01.mv {q : Prop} : ∀ r (U U' V V' : State), U'.heap = U.heap → V.vm.Alike V'.vm → V'.heap = V.heap → Says01 q r U V → Says01 q r U' V' :=
  fun r U U' V V' h1 _ h2 ⟨v, a, b, c⟩ => ⟨v, a, by rw [h1, h2]; exact b, c⟩
namespace LEq
def yN : MethodName := ⟨"java/lang/StringLatin1", "equals", "([B[B)Z"⟩
abbrev yB : ByteArray := jdk_43_method_13_code
theorem d0 : decode yB 0 = .ok (.aload_n 0, 1) := by decide +kernel
theorem d1 : decode yB 1 = .ok (.arraylength, 1) := by decide +kernel
theorem d2 : decode yB 2 = .ok (.aload_n 1, 1) := by decide +kernel
theorem d3 : decode yB 3 = .ok (.arraylength, 1) := by decide +kernel
theorem d4 : decode yB 4 = .ok (.if_icmp (.ne) 30, 3) := by decide +kernel
theorem d7 : decode yB 7 = .ok (.iconst 0, 1) := by decide +kernel
theorem d8 : decode yB 8 = .ok (.istore_n 2, 1) := by decide +kernel
theorem d9 : decode yB 9 = .ok (.iload_n 2, 1) := by decide +kernel
theorem d10 : decode yB 10 = .ok (.aload_n 0, 1) := by decide +kernel
theorem d11 : decode yB 11 = .ok (.arraylength, 1) := by decide +kernel
theorem d12 : decode yB 12 = .ok (.if_icmp (.ge) 20, 3) := by decide +kernel
theorem d15 : decode yB 15 = .ok (.aload_n 0, 1) := by decide +kernel
theorem d16 : decode yB 16 = .ok (.iload_n 2, 1) := by decide +kernel
theorem d17 : decode yB 17 = .ok (.baload, 1) := by decide +kernel
theorem d18 : decode yB 18 = .ok (.aload_n 1, 1) := by decide +kernel
theorem d19 : decode yB 19 = .ok (.iload_n 2, 1) := by decide +kernel
theorem d20 : decode yB 20 = .ok (.baload, 1) := by decide +kernel
theorem d21 : decode yB 21 = .ok (.if_icmp (.eq) 5, 3) := by decide +kernel
theorem d24 : decode yB 24 = .ok (.iconst 0, 1) := by decide +kernel
theorem d25 : decode yB 25 = .ok (.ireturn, 1) := by decide +kernel
theorem d26 : decode yB 26 = .ok (.iinc 2 1, 3) := by decide +kernel
theorem d29 : decode yB 29 = .ok (.goto (-20), 3) := by decide +kernel
theorem d32 : decode yB 32 = .ok (.iconst 1, 1) := by decide +kernel
theorem d33 : decode yB 33 = .ok (.ireturn, 1) := by decide +kernel
theorem d34 : decode yB 34 = .ok (.iconst 0, 1) := by decide +kernel
theorem d35 : decode yB 35 = .ok (.ireturn, 1) := by decide +kernel
def site : List Cond := []
def tab : Cond := tabOf yN yB 3 (some .boolean) site
def P (a : Addr) (A : Cell) (b : Addr) (B : Cell) (args : Array Value) (s : State) : Prop := args = #[.ref a, .ref b] ∧ XT.Arr .byte a A s ∧ Typed .byte A ∧ XT.Arr .byte b B s ∧ Typed .byte B
/-- whether two byte[] are equal, place for place -/
theorem law (l : Launch) (a : Addr) (A : Cell) (b : Addr) (B : Cell) : Law l yN 2 2 0 0 yB 3 (some .boolean) site (P a A b B) (Says01 (EqC A B)) [] 0 0 := by
  refine Law.of_walk (plainFor_of_name (by decide +kernel)) (by decide +kernel) (by decide +kernel) (by decide) (fun _ _ h => by rw [h.1]; rfl) (fun _ U U' hal hh h => ⟨h.1, h.2.1.mv hal hh, h.2.2.1, h.2.2.2.1.mv hal hh, h.2.2.2.2⟩) (fun r U U' V V' h1 hal h2 h => Says01.mv r U U' V V' h1 hal h2 h) ?_
  intro p e s m args below meth c s₁ X0 hexec hbytes hml hret hlk hnm hown hh0 W hP
  obtain ⟨rfl, hA, tA, hB, tB⟩ := hP
  have a31 := hA.2.2.2
  have b31 := hB.2.2.2
  have hA0 := hA.mv X0.warmed.alike hh0
  have hB0 := hB.mv X0.warmed.alike hh0
  have c1 : Steps p.tables e below (s₁.setTop (entryFrame m #[.ref a, .ref b] 3)) (s₁.setTop (mkF m 0 #[.val (.ref a), .val (.ref b), .unset] [])) := entry rfl
  have c2 : Steps p.tables e below (s₁.setTop (entryFrame m #[.ref a, .ref b] 3)) (s₁.setTop (mkF m 4 #[.val (.ref a), .val (.ref b), .unset] [.int (Int32.ofNat B.slots.size), .int (Int32.ofNat A.slots.size)])) := c1.trans (by
    refine XS.aloadN X0.here hexec rfl (hb hbytes d0) rfl rfl ?_
    refine X0.alen hexec hA0 rfl rfl (hb hbytes d1) ?_
    refine XS.aloadN X0.here hexec rfl (hb hbytes d2) rfl rfl ?_
    refine X0.alen hexec hB0 rfl rfl (hb hbytes d3) ?_
    exact Steps.refl _)
  by_cases hs : A.slots.size = B.slots.size
  · have c3 : Steps p.tables e below (s₁.setTop (entryFrame m #[.ref a, .ref b] 3)) (s₁.setTop (mkF m 9 #[.val (.ref a), .val (.ref b), .val (.int 0)] [])) := c2.trans (by
      refine XS.icmpNo X0.here hexec rfl (hb hbytes d4) rfl (ii_ne_f (by rw [hs])) ?_
      refine iconstV X0.here hexec rfl 0 (hb hbytes d7) (by decide) ?_
      refine XS.istoreN X0.here hexec rfl (hb hbytes d8) rfl rfl ?_
      exact Steps.refl _)
    have loop : ∀ (r i : Nat), i + r = A.slots.size → (∀ j, j < i → yv A j = yv B j) → Steps p.tables e below (s₁.setTop (entryFrame m #[.ref a, .ref b] 3)) (s₁.setTop (mkF m 9 #[.val (.ref a), .val (.ref b), .val (.int (Int32.ofNat i))] [])) → ∃ (pc : Nat) (Ls : Array Slot) (v : Int32), (pc = 25 ∨ pc = 33) ∧ ((v = 1 ∧ EqC A B) ∨ (v = 0 ∧ ¬ EqC A B)) ∧ Steps p.tables e below (s₁.setTop (entryFrame m #[.ref a, .ref b] 3)) (s₁.setTop (mkF m pc Ls [.int v])) := by
      intro r
      induction r with
      | zero =>
        intro i hi he cl
        exact ⟨33, _, 1, Or.inr rfl, Or.inl ⟨rfl, hs, fun j hj => he j (by omega)⟩, cl.trans (by
          refine XS.iloadN X0.here hexec rfl (hb hbytes d9) rfl ?_
          refine XS.aloadN X0.here hexec rfl (hb hbytes d10) rfl rfl ?_
          refine X0.alen hexec hA0 rfl rfl (hb hbytes d11) ?_
          refine XS.icmpYes X0.here hexec rfl (pc0 := 12) rfl (hb hbytes d12) rfl (ii_ge_t (nlt32 (by omega) (by omega))) (by decide) rfl ?_
          refine iconstV X0.here hexec rfl 1 (hb hbytes d32) (by decide) ?_
          exact Steps.refl _)⟩
      | succ r ih =>
        intro i hi he cl
        have c4 : Steps p.tables e below (s₁.setTop (entryFrame m #[.ref a, .ref b] 3)) (s₁.setTop (mkF m 21 #[.val (.ref a), .val (.ref b), .val (.int (Int32.ofNat i))] [.int (yv B i), .int (yv A i)])) := cl.trans (by
          refine XS.iloadN X0.here hexec rfl (hb hbytes d9) rfl ?_
          refine XS.aloadN X0.here hexec rfl (hb hbytes d10) rfl rfl ?_
          refine X0.alen hexec hA0 rfl rfl (hb hbytes d11) ?_
          refine XS.icmpNo X0.here hexec rfl (hb hbytes d12) rfl (ii_ge_f (lt32 (by omega) (by omega))) ?_
          refine XS.aloadN X0.here hexec rfl (hb hbytes d15) rfl rfl ?_
          refine XS.iloadN X0.here hexec rfl (hb hbytes d16) rfl ?_
          refine X0.aget hexec hA0 rfl (yv_get hA tA (i := i) (by omega)) rfl rfl (hb hbytes d17) ?_
          refine XS.aloadN X0.here hexec rfl (hb hbytes d18) rfl rfl ?_
          refine XS.iloadN X0.here hexec rfl (hb hbytes d19) rfl ?_
          refine X0.aget hexec hB0 rfl (yv_get hB tB (i := i) (by omega)) rfl rfl (hb hbytes d20) ?_
          exact Steps.refl _)
        by_cases hv : yv A i = yv B i
        · have c5 : Steps p.tables e below (s₁.setTop (entryFrame m #[.ref a, .ref b] 3)) (s₁.setTop (mkF m 9 #[.val (.ref a), .val (.ref b), .val (.int (Int32.ofNat i + 1))] [])) := c4.trans (by
            refine XS.icmpYes X0.here hexec rfl (pc0 := 21) rfl (hb hbytes d21) rfl (ii_eq_t hv) (by decide) rfl ?_
            refine iincV X0.here hexec rfl 1 (hb hbytes d26) (by decide) rfl rfl ?_
            refine XS.goto X0.here hexec rfl (pc0 := 29) rfl (hb hbytes d29) (by decide) rfl ?_
            exact Steps.refl _)
          rw [succ32] at c5
          exact ih (i + 1) (by omega) (fun j hj => by
            by_cases e : j = i
            · rw [e]; exact hv
            · exact he j (by omega)) c5
        · exact ⟨25, _, 0, Or.inl rfl, Or.inr ⟨rfl, fun q => hv (q.2 i (by omega))⟩, c4.trans (by
            refine XS.icmpNo X0.here hexec rfl (hb hbytes d21) rfl (ii_eq_f hv) ?_
            refine iconstV X0.here hexec rfl 0 (hb hbytes d24) (by decide) ?_
            exact Steps.refl _)⟩
    obtain ⟨pc, Ls, v, hpc, hv, cz⟩ := loop A.slots.size 0 (by omega) (fun j hj => absurd hj (Nat.not_lt_zero j)) c3
    have nv : narrow .boolean (.int v) = .int v := by rcases hv with ⟨rfl, -⟩ | ⟨rfl, -⟩ <;> rfl
    rcases hpc with rfl | rfl
    · exact ⟨s₁, some (.int v), _, _, _, X0, rfl, rfl, rfl, (fun h => by cases h), ⟨v, rfl, hh0, hv⟩, fun fs hl => cz.trans (X0.ireturnOut hexec hret nv (Or.inr (Or.inl rfl)) (hb hbytes d25) hl)⟩
    · exact ⟨s₁, some (.int v), _, _, _, X0, rfl, rfl, rfl, (fun h => by cases h), ⟨v, rfl, hh0, hv⟩, fun fs hl => cz.trans (X0.ireturnOut hexec hret nv (Or.inr (Or.inl rfl)) (hb hbytes d33) hl)⟩
  · have c3 : Steps p.tables e below (s₁.setTop (entryFrame m #[.ref a, .ref b] 3)) (s₁.setTop (mkF m 35 #[.val (.ref a), .val (.ref b), .unset] [.int 0])) := c2.trans (by
      refine XS.icmpYes X0.here hexec rfl (pc0 := 4) rfl (hb hbytes d4) rfl (ii_ne_t (ne32 a31 b31 hs)) (by decide) rfl ?_
      refine iconstV X0.here hexec rfl 0 (hb hbytes d34) (by decide) ?_
      exact Steps.refl _)
    exact ⟨s₁, some (.int 0), _, _, _, X0, rfl, rfl, rfl, (fun h => by cases h), ⟨0, rfl, hh0, Or.inr ⟨rfl, fun q => hs q.1⟩⟩, fun fs hl => c3.trans (X0.ireturnOut hexec hret rfl (Or.inr (Or.inl rfl)) (hb hbytes d35) hl)⟩
end LEq
theorem Cod.ty {cd : Int32} {n : Nat} {f : Nat → Int32} {V : Cell} (h : Cod cd n f V) : Typed .byte V := fun i v hv => by
  have hi : i < V.slots.size := (Array.getElem?_eq_some_iff.mp hv).1
  rcases h with ⟨-, k1, k2⟩ | ⟨-, k1, k2, -⟩
  · rw [(k2 i (by omega)).1] at hv; cases hv; exact fits_lo8 _
  · rcases Nat.mod_two_eq_zero_or_one i with e | e
    · obtain ⟨j, rfl⟩ : ∃ j, i = 2 * j := ⟨i / 2, by omega⟩
      rw [(k2 j (by omega)).1] at hv; cases hv; exact fits_lo8 _
    · obtain ⟨j, rfl⟩ : ∃ j, i = 2 * j + 1 := ⟨i / 2, by omega⟩
      rw [(k2 j (by omega)).2] at hv; cases hv; exact fits_lo8 _
/-- the same text -/
def SameT (n : Nat) (f : Nat → Int32) (k : Nat) (g : Nat → Int32) : Prop := n = k ∧ ∀ j, j < n → f j = g j
theorem lo8_inj {x y : Int32} (h0 : ¬ x < 0) (h1 : ¬ 255 < x) (k0 : ¬ y < 0) (k1 : ¬ 255 < y) (h : lo8 x = lo8 y) : x = y := by
  rw [← lo8_mask h0 h1, ← lo8_mask k0 k1, h]
/-- arrays coded by one coder are equal just where the texts are -/
theorem Cod.eqv {cd : Int32} {n k : Nat} {f g : Nat → Int32} {V V' : Cell} (h : Cod cd n f V) (h' : Cod cd k g V') (hf : ∀ j, j < n → ¬ f j < 0 ∧ ¬ 65535 < f j) (hg : ∀ j, j < k → ¬ g j < 0 ∧ ¬ 65535 < g j) : EqC V V' ↔ SameT n f k g := by
  have yvv : ∀ {W : Cell} {i : Nat} {x : Int32}, W.slots[i]? = some (.int x) → yv W i = x := fun q => by unfold yv; rw [q]
  rcases h with ⟨rfl, k1, k2⟩ | ⟨rfl, k1, k2, -⟩
  · rcases h' with ⟨-, m1, m2⟩ | ⟨e, -⟩
    · constructor
      · rintro ⟨e1, e2⟩
        refine ⟨by omega, fun j hj => ?_⟩
        have q := e2 j (by omega)
        rw [yvv (k2 j hj).1, yvv (m2 j (by omega)).1] at q
        exact lo8_inj (hf j hj).1 (k2 j hj).2 (hg j (by omega)).1 (m2 j (by omega)).2 q
      · rintro ⟨rfl, e2⟩
        refine ⟨by omega, fun j hj => ?_⟩
        rw [yvv (k2 j (by omega)).1, yvv (m2 j (by omega)).1, e2 j (by omega)]
    · exact absurd e (by decide)
  · rcases h' with ⟨e, -⟩ | ⟨-, m1, m2, -⟩
    · exact absurd e (by decide)
    · constructor
      · rintro ⟨e1, e2⟩
        refine ⟨by omega, fun j hj => ?_⟩
        have q1 := e2 (2 * j) (by omega)
        have q2 := e2 (2 * j + 1) (by omega)
        rw [yvv (k2 j hj).1, yvv (m2 j (by omega)).1] at q1
        rw [yvv (k2 j hj).2, yvv (m2 j (by omega)).2] at q2
        rw [← pair_says (hf j hj).1 (hf j hj).2, ← pair_says (hg j (by omega)).1 (hg j (by omega)).2, q1, q2]
      · rintro ⟨rfl, e2⟩
        refine ⟨by omega, fun i hi => ?_⟩
        rcases Nat.mod_two_eq_zero_or_one i with e | e
        · obtain ⟨j, rfl⟩ : ∃ j, i = 2 * j := ⟨i / 2, by omega⟩
          rw [yvv (k2 j (by omega)).1, yvv (m2 j (by omega)).1, e2 j (by omega)]
        · obtain ⟨j, rfl⟩ : ∃ j, i = 2 * j + 1 := ⟨i / 2, by omega⟩
          rw [yvv (k2 j (by omega)).2, yvv (m2 j (by omega)).2, e2 j (by omega)]
/-- two codings differ: so do the texts -/
theorem Cod.dif {cd cd' : Int32} {n k : Nat} {f g : Nat → Int32} {V V' : Cell} (h : Cod cd n f V) (h' : Cod cd' k g V') (hne : ¬ cd = cd') : ¬ SameT n f k g := by
  rintro ⟨rfl, e⟩
  rcases h with ⟨rfl, -, k2⟩ | ⟨rfl, -, -, j, hj, hw⟩
  · rcases h' with ⟨rfl, -⟩ | ⟨-, -, -, j, hj, hw⟩
    · exact hne rfl
    · exact (k2 j hj).2 (by rw [e j hj]; exact hw)
  · rcases h' with ⟨-, -, m2⟩ | ⟨rfl, -⟩
    · exact (m2 j hj).2 (by rw [← e j hj]; exact hw)
    · exact hne rfl
/-- an object of exactly C is an instance of C -/
theorem cinst {p : Program} {l : Launch} {e : Env} {R : Room} {s : State} {m : MethodId} {args : Array Value} {below : List Frame} {meth : Method} {c : Code} {T : State} {locs : List Loc} {cells slots : Nat} (X : Stand p l e R s m args below meth c T locs cells slots) (hexec : p.tables.exec = Jvm.exec) {own C : String} {index : Nat} (hown : s.vm.findClass own = some m.cls) (hlink : (Cond.classLink own index C).before args s = true) {a : Addr} (hE : Exact C a T)
    {g : JFrame} (hg : g.method = m) {rest : List Value} (hstack : g.stack = .ref a :: rest) (hdg : decode c.code g.pc = .ok (.instanceof index, 3)) :
    ∃ T', Stand p l e R s m args below meth c T' locs cells slots ∧ T'.heap = T.heap ∧ ∀ target, Steps p.tables e below (T'.setTop { g with pc := g.pc + 3, stack := .int 1 :: rest }) target → Steps p.tables e below (T.setTop g) target := by
  obtain ⟨cB, h1, D, h2, h3, h4⟩ := hE
  have h1' : s.vm.findClass C = some cB := by rw [← X.warmed.alike.findClass]; exact h1
  obtain ⟨vm', X', st⟩ := X.instanceofYes hexec hown hlink h2 h4 h1' (by rw [h3]; exact Jvm.Free.SB.assignable_self _ _) hg hstack hdg
  exact ⟨_, X', rfl, st⟩
theorem cself {p : Program} {l : Launch} {e : Env} {R : Room} {s : State} {m : MethodId} {args : Array Value} {below : List Frame} {meth : Method} {c : Code} {T : State} {locs : List Loc} {cells slots : Nat} (X : Stand p l e R s m args below meth c T locs cells slots) (hexec : p.tables.exec = Jvm.exec) {own C : String} {index : Nat} (hown : s.vm.findClass own = some m.cls) (hlink : (Cond.classLink own index C).before args s = true) {a : Addr} (hE : Exact C a T)
    {g : JFrame} (hg : g.method = m) {rest : List Value} (hstack : g.stack = .ref a :: rest) (hdg : decode c.code g.pc = .ok (.checkcast index, 3)) :
    ∃ T', Stand p l e R s m args below meth c T' locs cells slots ∧ T'.heap = T.heap ∧ ∀ target, Steps p.tables e below (T'.setTop { g with pc := g.pc + 3, stack := .ref a :: rest }) target → Steps p.tables e below (T.setTop g) target := by
  obtain ⟨cB, h1, D, h2, h3, h4⟩ := hE
  have h1' : s.vm.findClass C = some cB := by rw [← X.warmed.alike.findClass]; exact h1
  obtain ⟨vm', X', st⟩ := X.checkcastYes hexec hown hlink h2 h4 h1' (by rw [h3]; exact Jvm.Free.SB.assignable_self _ _) hg hstack hdg
  exact ⟨_, X', rfl, fun t h => st t (by rw [← hstack] at h; exact h)⟩
namespace SEq
def yN : MethodName := ⟨"java/lang/String", "equals", "(Ljava/lang/Object;)Z"⟩
abbrev yB : ByteArray := jdk_42_method_66_code
theorem d0 : decode yB 0 = .ok (.aload_n 0, 1) := by decide +kernel
theorem d1 : decode yB 1 = .ok (.aload_n 1, 1) := by decide +kernel
theorem d2 : decode yB 2 = .ok (.if_acmp (.ne) 5, 3) := by decide +kernel
theorem d5 : decode yB 5 = .ok (.iconst 1, 1) := by decide +kernel
theorem d6 : decode yB 6 = .ok (.ireturn, 1) := by decide +kernel
theorem d7 : decode yB 7 = .ok (.aload_n 1, 1) := by decide +kernel
theorem d8 : decode yB 8 = .ok (.instanceof 10, 3) := by decide +kernel
theorem d11 : decode yB 11 = .ok (.ifCond (.eq) 43, 3) := by decide +kernel
theorem d14 : decode yB 14 = .ok (.aload_n 1, 1) := by decide +kernel
theorem d15 : decode yB 15 = .ok (.checkcast 10, 3) := by decide +kernel
theorem d18 : decode yB 18 = .ok (.astore_n 2, 1) := by decide +kernel
theorem d19 : decode yB 19 = .ok (.getstatic 38, 3) := by decide +kernel
theorem d22 : decode yB 22 = .ok (.ifCond (.eq) 14, 3) := by decide +kernel
theorem d25 : decode yB 25 = .ok (.aload_n 0, 1) := by decide +kernel
theorem d26 : decode yB 26 = .ok (.getfield 15, 3) := by decide +kernel
theorem d29 : decode yB 29 = .ok (.aload_n 2, 1) := by decide +kernel
theorem d30 : decode yB 30 = .ok (.getfield 15, 3) := by decide +kernel
theorem d33 : decode yB 33 = .ok (.if_icmp (.ne) 21, 3) := by decide +kernel
theorem d36 : decode yB 36 = .ok (.aload_n 0, 1) := by decide +kernel
theorem d37 : decode yB 37 = .ok (.getfield 9, 3) := by decide +kernel
theorem d40 : decode yB 40 = .ok (.aload_n 2, 1) := by decide +kernel
theorem d41 : decode yB 41 = .ok (.getfield 9, 3) := by decide +kernel
theorem d44 : decode yB 44 = .ok (.invokestatic 541, 3) := by decide +kernel
theorem d47 : decode yB 47 = .ok (.ifCond (.eq) 7, 3) := by decide +kernel
theorem d50 : decode yB 50 = .ok (.iconst 1, 1) := by decide +kernel
theorem d51 : decode yB 51 = .ok (.goto 4, 3) := by decide +kernel
theorem d54 : decode yB 54 = .ok (.iconst 0, 1) := by decide +kernel
theorem d55 : decode yB 55 = .ok (.ireturn, 1) := by decide +kernel
def site : List Cond := [.classLink "java/lang/String" 10 "java/lang/String", .fieldLink "java/lang/String" 38 "java/lang/String" "COMPACT_STRINGS" "Z", .fieldLink "java/lang/String" 15 "java/lang/String" "coder" "B", .fieldLink "java/lang/String" 9 "java/lang/String" "value" "[B", LEq.tab] ++ staticW "java/lang/String" 541 LEq.yN
def tab : Cond := tabOf yN yB 3 (some .boolean) site
def P (x t : Addr) (V : Cell) (cd : Int32) (n : Nat) (f : Nat → Int32) (y t' : Addr) (V' : Cell) (cd' : Int32) (k : Nat) (g : Nat → Int32) (z : Int32) (args : Array Value) (s : State) : Prop := args = #[.ref x, .ref y] ∧ Txt x t V cd n f s ∧ Txt y t' V' cd' k g s ∧ StaticIs s "java/lang/String" "COMPACT_STRINGS" "Z" (.int z) ∧ ¬ z = 0
/-- equals(Object) of two Strings: whether the texts are the same -/
theorem law (l : Launch) (x t : Addr) (V : Cell) (cd : Int32) (n : Nat) (f : Nat → Int32) (y t' : Addr) (V' : Cell) (cd' : Int32) (k : Nat) (g : Nat → Int32) (z : Int32) : Law l yN 2 1 1 14 yB 3 (some .boolean) site (P x t V cd n f y t' V' cd' k g z) (Says01 (SameT n f k g)) [] 0 0 := by
  refine Law.of_walk (plainFor_of_name (by decide +kernel)) (by decide +kernel) (by decide +kernel) (by decide) (fun _ _ h => by rw [h.1]; rfl) (fun _ U U' hal hh h => ⟨h.1, h.2.1.mv hal hh, h.2.2.1.mv hal hh, h.2.2.2.1.there hal hh, h.2.2.2.2⟩) (fun r U U' V V' h1 hal h2 h => Says01.mv r U U' V V' h1 hal h2 h) ?_
  intro p e s m args below meth c s₁ X0 hexec hbytes hml hret hlk hnm hown hh0 W hP
  obtain ⟨rfl, hx, hy, s1, hz⟩ := hP
  have c1 : Steps p.tables e below (s₁.setTop (entryFrame m #[.ref x, .ref y] 3)) (s₁.setTop (mkF m 2 #[.val (.ref x), .val (.ref y), .unset] [.ref y, .ref x])) := Steps.trans (entry rfl) (by
    show Steps p.tables e below (s₁.setTop (mkF m 0 #[.val (.ref x), .val (.ref y), .unset] [])) _
    refine XS.aloadN X0.here hexec rfl (hb hbytes d0) rfl rfl ?_
    refine XS.aloadN X0.here hexec rfl (hb hbytes d1) rfl rfl ?_
    exact Steps.refl _)
  by_cases hxy : x = y
  · have c2 : Steps p.tables e below (s₁.setTop (entryFrame m #[.ref x, .ref y] 3)) (s₁.setTop (mkF m 6 #[.val (.ref x), .val (.ref y), .unset] [.int 1])) := c1.trans (by
      refine acmpNo X0.here hexec rfl (hb hbytes d2) rfl rfl rfl (by simp [acmp, hxy]) ?_
      refine iconstV X0.here hexec rfl 1 (hb hbytes d5) (by decide) ?_
      exact Steps.refl _)
    subst hxy
    have ec : cd = cd' := by
      obtain ⟨D, fd, a1, a2, a3⟩ := hx.2.2.1
      obtain ⟨D', fd', b1, b2, b3⟩ := hy.2.2.1
      cases a1.symm.trans b1
      obtain ⟨q1, q2, q3, q4⟩ := a2.1
      obtain ⟨r1, r2, r3, r4⟩ := b2.1
      cases q4.symm.trans r4
      cases a3.symm.trans b3; rfl
    have et : t = t' := by
      obtain ⟨D, fd, a1, a2, a3⟩ := hx.2.1
      obtain ⟨D', fd', b1, b2, b3⟩ := hy.2.1
      cases a1.symm.trans b1
      obtain ⟨q1, q2, q3, q4⟩ := a2.1
      obtain ⟨r1, r2, r3, r4⟩ := b2.1
      cases q4.symm.trans r4
      cases a3.symm.trans b3; rfl
    subst ec et
    have ev : V = V' := by cases hx.2.2.2.1.1.symm.trans hy.2.2.2.1.1; rfl
    subst ev
    have hs : SameT n f k g := (Cod.eqv hx.2.2.2.2.1 hy.2.2.2.2.1 hx.2.2.2.2.2 hy.2.2.2.2.2).mp ⟨rfl, fun _ _ => rfl⟩
    exact ⟨s₁, some (.int 1), _, _, _, X0, rfl, rfl, rfl, (fun h => by cases h), ⟨1, rfl, hh0, Or.inl ⟨rfl, hs⟩⟩, fun fs hl => c2.trans (X0.ireturnOut hexec hret rfl (Or.inr (Or.inl rfl)) (hb hbytes d6) hl)⟩
  · have c2 : Steps p.tables e below (s₁.setTop (entryFrame m #[.ref x, .ref y] 3)) (s₁.setTop (mkF m 8 #[.val (.ref x), .val (.ref y), .unset] [.ref y])) := c1.trans (by
      refine acmpYes X0.here hexec rfl (pc0 := 2) rfl (hb hbytes d2) rfl rfl rfl (by simp [acmp, hxy]) (by decide) rfl ?_
      refine XS.aloadN X0.here hexec rfl (hb hbytes d7) rfl rfl ?_
      exact Steps.refl _)
    obtain ⟨T3, X3, q3, st3⟩ := cinst X0 hexec hown (wk W (.classLink "java/lang/String" 10 "java/lang/String")) (hy.mv X0.warmed.alike hh0).1 (g := (mkF m 8 #[.val (.ref x), .val (.ref y), .unset] [.ref y])) rfl (rest := []) rfl (hb hbytes d8)
    have hh3 := q3.trans hh0
    have c4 : Steps p.tables e below (s₁.setTop (entryFrame m #[.ref x, .ref y] 3)) (T3.setTop (mkF m 15 #[.val (.ref x), .val (.ref y), .unset] [.ref y])) := (c2.trans (st3 _ (Steps.refl _))).trans (by
      refine XS.ifNo X3.here hexec rfl (hb hbytes d11) rfl (i0_eq_f (by decide)) ?_
      refine XS.aloadN X3.here hexec rfl (hb hbytes d14) rfl rfl ?_
      exact Steps.refl _)
    obtain ⟨T5, X5, q5, st5⟩ := cself X3 hexec hown (wk W (.classLink "java/lang/String" 10 "java/lang/String")) (hy.mv X3.warmed.alike hh3).1 (g := (mkF m 15 #[.val (.ref x), .val (.ref y), .unset] [.ref y])) rfl (rest := []) rfl (hb hbytes d15)
    have hh5 := q5.trans hh3
    have c6 : Steps p.tables e below (s₁.setTop (entryFrame m #[.ref x, .ref y] 3)) (T5.setTop (mkF m 19 #[.val (.ref x), .val (.ref y), .val (.ref y)] [])) := (c4.trans (st5 _ (Steps.refl _))).trans (by
      refine XS.astoreN X5.here hexec rfl (hb hbytes d18) rfl rfl rfl ?_
      exact Steps.refl _)
    obtain ⟨T7, X7, q7, st7⟩ := X5.sget hexec hown (wk W (.fieldLink "java/lang/String" 38 "java/lang/String" "COMPACT_STRINGS" "Z")) s1 (fun _ _ h => by rw [hh5]; exact h) (g := (mkF m 19 #[.val (.ref x), .val (.ref y), .val (.ref y)] [])) rfl (hb hbytes d19)
    have hh7 := q7.trans hh5
    have c8 : Steps p.tables e below (s₁.setTop (entryFrame m #[.ref x, .ref y] 3)) (T7.setTop (mkF m 26 #[.val (.ref x), .val (.ref y), .val (.ref y)] [.ref x])) := (c6.trans (st7 _ (Steps.refl _))).trans (by
      refine XS.ifNo X7.here hexec rfl (hb hbytes d22) rfl (i0_eq_f hz) ?_
      refine XS.aloadN X7.here hexec rfl (hb hbytes d25) rfl rfl ?_
      exact Steps.refl _)
    obtain ⟨T9, X9, q9, st9⟩ := X7.hget hexec hown (wk W (.fieldLink "java/lang/String" 15 "java/lang/String" "coder" "B")) (hx.mv X7.warmed.alike hh7).2.2.1 (g := (mkF m 26 #[.val (.ref x), .val (.ref y), .val (.ref y)] [.ref x])) rfl (rest := []) rfl (hb hbytes d26)
    have hh9 := q9.trans hh7
    have c10 : Steps p.tables e below (s₁.setTop (entryFrame m #[.ref x, .ref y] 3)) (T9.setTop (mkF m 30 #[.val (.ref x), .val (.ref y), .val (.ref y)] [.ref y, .int cd])) := (c8.trans (st9 _ (Steps.refl _))).trans (by
      refine XS.aloadN X9.here hexec rfl (hb hbytes d29) rfl rfl ?_
      exact Steps.refl _)
    obtain ⟨T11, X11, q11, st11⟩ := X9.hget hexec hown (wk W (.fieldLink "java/lang/String" 15 "java/lang/String" "coder" "B")) (hy.mv X9.warmed.alike hh9).2.2.1 (g := (mkF m 30 #[.val (.ref x), .val (.ref y), .val (.ref y)] [.ref y, .int cd])) rfl (rest := [.int cd]) rfl (hb hbytes d30)
    have hh11 := q11.trans hh9
    have c12 : Steps p.tables e below (s₁.setTop (entryFrame m #[.ref x, .ref y] 3)) (T11.setTop (mkF m 33 #[.val (.ref x), .val (.ref y), .val (.ref y)] [.int cd', .int cd])) := c10.trans (st11 _ (Steps.refl _))
    by_cases hcd : cd = cd'
    · subst hcd
      have c13 : Steps p.tables e below (s₁.setTop (entryFrame m #[.ref x, .ref y] 3)) (T11.setTop (mkF m 37 #[.val (.ref x), .val (.ref y), .val (.ref y)] [.ref x])) := c12.trans (by
        refine XS.icmpNo X11.here hexec rfl (hb hbytes d33) rfl (ii_ne_f rfl) ?_
        refine XS.aloadN X11.here hexec rfl (hb hbytes d36) rfl rfl ?_
        exact Steps.refl _)
      obtain ⟨T14, X14, q14, st14⟩ := X11.hget hexec hown (wk W (.fieldLink "java/lang/String" 9 "java/lang/String" "value" "[B")) (hx.mv X11.warmed.alike hh11).2.1 (g := (mkF m 37 #[.val (.ref x), .val (.ref y), .val (.ref y)] [.ref x])) rfl (rest := []) rfl (hb hbytes d37)
      have hh14 := q14.trans hh11
      have c15 : Steps p.tables e below (s₁.setTop (entryFrame m #[.ref x, .ref y] 3)) (T14.setTop (mkF m 41 #[.val (.ref x), .val (.ref y), .val (.ref y)] [.ref y, .ref t])) := (c13.trans (st14 _ (Steps.refl _))).trans (by
        refine XS.aloadN X14.here hexec rfl (hb hbytes d40) rfl rfl ?_
        exact Steps.refl _)
      obtain ⟨T16, X16, q16, st16⟩ := X14.hget hexec hown (wk W (.fieldLink "java/lang/String" 9 "java/lang/String" "value" "[B")) (hy.mv X14.warmed.alike hh14).2.1 (g := (mkF m 41 #[.val (.ref x), .val (.ref y), .val (.ref y)] [.ref y, .ref t])) rfl (rest := [.ref t]) rfl (hb hbytes d41)
      have hh16 := q16.trans hh14
      have c17 : Steps p.tables e below (s₁.setTop (entryFrame m #[.ref x, .ref y] 3)) (T16.setTop (mkF m 44 #[.val (.ref x), .val (.ref y), .val (.ref y)] [.ref t', .ref t])) := c15.trans (st16 _ (Steps.refl _))
      obtain ⟨v18, T18, X18, E18, g18⟩ := X16.callS hexec (LEq.law l t V t' V') hown (wks W (staticW "java/lang/String" 541 LEq.yN)) (wk W LEq.tab) (W := 0) (Nat.le_of_ble_eq_true rfl) (Nat.le_of_ble_eq_true rfl) (Nat.le_refl _) (Nat.le_refl _) (g := (mkF m 44 #[.val (.ref x), .val (.ref y), .val (.ref y)] [.ref t', .ref t])) rfl (by rw [hml]; rfl) c17 (argsL := [.ref t, .ref t']) (rest := []) rfl rfl (by show 2 * 0 + 0 ≤ _; decide) (hb hbytes d44) (⟨rfl, hx.2.2.2.1.mv X16.warmed.alike hh16, hx.2.2.2.2.1.ty, hy.2.2.2.1.mv X16.warmed.alike hh16, hy.2.2.2.2.1.ty⟩)
      obtain ⟨v, rfl, q18, hv⟩ := E18
      have iff := Cod.eqv hx.2.2.2.2.1 hy.2.2.2.2.1 hx.2.2.2.2.2 hy.2.2.2.2.2
      rcases hv with ⟨rfl, he⟩ | ⟨rfl, he⟩
      · have c19 : Steps p.tables e below (s₁.setTop (entryFrame m #[.ref x, .ref y] 3)) (T18.setTop (mkF m 55 #[.val (.ref x), .val (.ref y), .val (.ref y)] [.int 1])) := Steps.trans g18 (by
          refine XS.ifNo X18.here hexec rfl (hb hbytes d47) rfl (i0_eq_f (by decide)) ?_
          refine iconstV X18.here hexec rfl 1 (hb hbytes d50) (by decide) ?_
          refine XS.goto X18.here hexec rfl (pc0 := 51) rfl (hb hbytes d51) (by decide) rfl ?_
          exact Steps.refl _)
        exact ⟨T18, some (.int 1), _, _, _, X18, rfl, rfl, rfl, (fun h => by cases h), ⟨1, rfl, q18.trans hh16, Or.inl ⟨rfl, iff.mp he⟩⟩, fun fs hl => c19.trans (X18.ireturnOut hexec hret rfl (Or.inr (Or.inl rfl)) (hb hbytes d55) hl)⟩
      · have c19 : Steps p.tables e below (s₁.setTop (entryFrame m #[.ref x, .ref y] 3)) (T18.setTop (mkF m 55 #[.val (.ref x), .val (.ref y), .val (.ref y)] [.int 0])) := Steps.trans g18 (by
          refine XS.ifYes X18.here hexec rfl (pc0 := 47) rfl (hb hbytes d47) rfl (i0_eq_t rfl) (by decide) rfl ?_
          refine iconstV X18.here hexec rfl 0 (hb hbytes d54) (by decide) ?_
          exact Steps.refl _)
        exact ⟨T18, some (.int 0), _, _, _, X18, rfl, rfl, rfl, (fun h => by cases h), ⟨0, rfl, q18.trans hh16, Or.inr ⟨rfl, fun q => he (iff.mpr q)⟩⟩, fun fs hl => c19.trans (X18.ireturnOut hexec hret rfl (Or.inr (Or.inl rfl)) (hb hbytes d55) hl)⟩
    · have c13 : Steps p.tables e below (s₁.setTop (entryFrame m #[.ref x, .ref y] 3)) (T11.setTop (mkF m 55 #[.val (.ref x), .val (.ref y), .val (.ref y)] [.int 0])) := c12.trans (by
        refine XS.icmpYes X11.here hexec rfl (pc0 := 33) rfl (hb hbytes d33) rfl (ii_ne_t hcd) (by decide) rfl ?_
        refine iconstV X11.here hexec rfl 0 (hb hbytes d54) (by decide) ?_
        exact Steps.refl _)
      exact ⟨T11, some (.int 0), _, _, _, X11, rfl, rfl, rfl, (fun h => by cases h), ⟨0, rfl, hh11, Or.inr ⟨rfl, Cod.dif hx.2.2.2.2.1 hy.2.2.2.2.1 hcd⟩⟩, fun fs hl => c13.trans (X11.ireturnOut hexec hret rfl (Or.inr (Or.inl rfl)) (hb hbytes d55) hl)⟩
theorem pays {l : Launch} {R : Room} {p : Program} {e : Env} {below : List Frame} {s : State} {sargs : Array Value} {len W : Nat} (x t : Addr) (V : Cell) (cd : Int32) (n : Nat) (f : Nat → Int32) (y t' : Addr) (V' : Cell) (cd' : Int32) (k : Nat) (g : Nat → Int32) (z : Int32) (htab : tab.before sargs s = true) (hfr : 2 ≤ R.frames) (hlo : W + 28 ≤ R.locals) :
    Back l R p e below s sargs yN len W (fun A₁ a₁ => A₁.cells + 0 ≤ R.cells ∧ A₁.slots + 0 ≤ R.slots ∧ P x t V cd n f y t' V' cd' k g z a₁ A₁.U) (fun A₁ _ v₁ B₁ => Says01 (SameT n f k g) v₁ A₁.U B₁.U ∧ B₁.locs = A₁.locs ++ [] ∧ B₁.cells = A₁.cells + 0 ∧ B₁.slots = A₁.slots + 0) :=
  (law l x t V cd n f y t' V' cd' k g z).pays htab hfr (by omega)
end SEq
end StrChars
namespace StrChars.Road
open Jvm Sem ClassFile Op Lib Jvm.Stand Jvm.Free Jvm.Free.XT
open Jvm.Lib.Cold (StaticIs)
/-- the words of String.isEmpty() -/
abbrev wordsEmp : List Jvm.Cond := [.code Emp.yN Emp.yB 1 (some .boolean), .initialized ST, .fieldLink ST 9 ST "value" "[B"]
theorem tabEmp_of {a : Array Value} {s : State} (h : ∀ w ∈ wordsEmp, w.before a s = true) : Emp.tab.before a s = true := unparts (wk h (.code Emp.yN Emp.yB 1 (some .boolean))) (wks h (.initialized Emp.yN.cls :: Emp.site))
theorem movedEmp {Z s : State} {a0 args : Array Value} (hZ : Z.Warmed39 s.vm) (hw : ∀ d ∈ wordsEmp, d.before a0 Z = true) : ∀ d ∈ wordsEmp, d.before args s = true := fun d hd => by
  have t : ∀ d ∈ wordsEmp, (d.onTables && d.keepsFace) = true := by decide +kernel
  exact RoadKit.mv hZ (hw d hd) (t d hd)
/-- the words of String.equals(Object) -/
abbrev wordsEq : List Jvm.Cond := [.code SEq.yN SEq.yB 3 (some .boolean), .initialized ST, .classLink ST 10 ST, .fieldLink ST 38 ST "COMPACT_STRINGS" "Z", .fieldLink ST 15 ST "coder" "B", .fieldLink ST 9 ST "value" "[B", .methodLink ST 541 LEq.yN, .static LEq.yN, .code LEq.yN LEq.yB 3 (some .boolean), .initialized "java/lang/StringLatin1"]
theorem tabEq_of {a : Array Value} {s : State} (h : ∀ w ∈ wordsEq, w.before a s = true) : SEq.tab.before a s = true := by
  have hl : LEq.tab.before a s = true := unparts (wk h (.code LEq.yN LEq.yB 3 (some .boolean))) (wks h (.initialized LEq.yN.cls :: LEq.site))
  have q := consq hl h
  exact unparts (wk q (.code SEq.yN SEq.yB 3 (some .boolean))) (wks q (.initialized SEq.yN.cls :: SEq.site))
theorem movedEq {Z s : State} {a0 args : Array Value} (hZ : Z.Warmed39 s.vm) (hw : ∀ d ∈ wordsEq, d.before a0 Z = true) : ∀ d ∈ wordsEq, d.before args s = true := fun d hd => by
  have t : ∀ d ∈ wordsEq, (d.onTables && d.keepsFace) = true := by decide +kernel
  exact RoadKit.mv hZ (hw d hd) (t d hd)
/-- the road's facts of a String, as the laws ask it -/
theorem txt_of {Z U : State} {a0 : Array Value} {kI : Nat} (wi : (Jvm.Cond.instantiable ST kI).before a0 Z = true) (al : Z.vm.Alike U.vm) {x t : Addr} {kb : ClassId} {cs : List Int32} {cd N2 : Int32} {vs : List Value} (E : RoadKit.Exa Z U.heap x ST) (V : RoadKit.Fld Z U.heap x ST "value" "[B" (.ref t)) (C : RoadKit.Fld Z U.heap x ST "coder" "B" (.int cd)) (K : RoadKit.Arv Z U.heap t kb .byte N2 vs (.int 0)) (hc : CodA cs cd N2 vs) (hb : ∀ c ∈ cs, ¬ c < 0 ∧ ¬ (65535 : Int32) < c) (l2 : cs.length ≤ 4000) :
    ∃ A, Txt x t A cd cs.length (fun j => cs.getD j 0) U := by
  obtain ⟨A, K1, K2, K3, K4, K5, K6⟩ := K
  have hcod := hc.cod (by omega) K3 K5
  obtain ⟨D, fV, fC, hB, F1, F2, g1, g2, -, -⟩ := strObj wi al E V C
  exact ⟨A, ⟨_, hB.2.2.1, D, hB.1, rfl, by cases q : D.vm <;> first | rfl | exact absurd q (hB.2.1.2 _)⟩, Has.of hB F1 g1, Has.of hB F2 g2, ⟨K1.1, State.isArrayOf_alike al K1.2.1, K1.2.2, by rcases hcod with ⟨-, q, -⟩ | ⟨-, q, -⟩ <;> omega⟩, hcod, fun j hj => by
    have e : cs.getD j 0 = cs[j] := by simp [List.getD_eq_getElem?_getD, hj]
    show ¬ cs.getD j 0 < 0 ∧ ¬ 65535 < cs.getD j 0
    rw [e]; exact hb _ (List.getElem_mem _)⟩
theorem same_list (cs ds : List Int32) : SameT cs.length (fun j => cs.getD j 0) ds.length (fun j => ds.getD j 0) ↔ cs = ds := by
  constructor
  · rintro ⟨e, q⟩
    refine List.ext_getElem e fun j h1 h2 => ?_
    have := q j h1
    simpa [List.getD_eq_getElem?_getD, h1, h2] using this
  · rintro rfl
    exact ⟨rfl, fun _ _ => rfl⟩
/-- **isEmpty() OF SUCH A STRING** -/
theorem empW {p : Program} {l : Launch} {e : Env} {R : Room} {s : State} {args : Array Value} {below : List Frame} {len W : Nat} {Z : State} {a0 : Array Value} {h : Heap} (hZ : Z.Warmed39 s.vm) (hw : ∀ d ∈ wordsEmp, d.before a0 Z = true) {kI : Nat} (wi : (Jvm.Cond.instantiable ST kI).before a0 Z = true)
    {x t : Addr} {kb : ClassId} {cs : List Int32} {cd N2 : Int32} {vs : List Value} (E : RoadKit.Exa Z h x ST) (V : RoadKit.Fld Z h x ST "value" "[B" (.ref t)) (C : RoadKit.Fld Z h x ST "coder" "B" (.int cd)) (K : RoadKit.Arv Z h t kb .byte N2 vs (.int 0)) (hc : CodA cs cd N2 vs) (hb : ∀ c ∈ cs, ¬ c < 0 ∧ ¬ (65535 : Int32) < c) (l2 : cs.length ≤ 4000) (hfr : 1 ≤ R.frames) (hlo : W + 12 ≤ R.locals) :
    Back l R p e below s args (⟨"java/lang/String", "isEmpty", "()Z"⟩ : MethodName) len W (fun P a => a = #[.ref x] ∧ P.U.heap = h ∧ P.cells + 0 ≤ R.cells ∧ P.slots + 0 ≤ R.slots)
      (fun P _ v B => ∃ L, (v = some (.int (if cs.length = 0 then 1 else 0)) ∧ L = [] ∧ B.U.heap = h) ∧ B.locs = P.locs ++ L ∧ B.cells = P.cells + 0 ∧ B.slots = P.slots + 0) := by
  intro m meth c P g ig mk a X hg hsize hdg hW hn hp'
  obtain ⟨rfl, rfl, r1, r2⟩ := hp'
  have al : Z.vm.Alike P.U.vm := hZ.alike.trans X.warmed.alike
  obtain ⟨A, hx⟩ := txt_of wi al E V C K hc hb l2
  obtain ⟨v, B, X', ⟨⟨hv, hh⟩, hl, hk, hs⟩, st⟩ := Emp.pays x t A cd cs.length (fun j => cs.getD j 0) (tabEmp_of (movedEmp hZ hw)) hfr hlo m meth c P g ig mk _ X hg hsize hdg hW hn ⟨r1, r2, rfl, hx⟩
  exact ⟨v, B, X', ⟨[], ⟨hv, rfl, hh⟩, hl, hk, hs⟩, st⟩
/-- **equals(Object) OF TWO SUCH STRINGS**: 1 just where the chars are the same -/
theorem eqW {p : Program} {l : Launch} {e : Env} {R : Room} {s : State} {args : Array Value} {below : List Frame} {len W : Nat} {Z : State} {a0 : Array Value} {h : Heap} (hZ : Z.Warmed39 s.vm) (hw : ∀ d ∈ wordsEq, d.before a0 Z = true) {kI : Nat} (wi : (Jvm.Cond.instantiable ST kI).before a0 Z = true)
    {x t : Addr} {kb : ClassId} {cs : List Int32} {cd N2 : Int32} {vs : List Value} (E : RoadKit.Exa Z h x ST) (V : RoadKit.Fld Z h x ST "value" "[B" (.ref t)) (C : RoadKit.Fld Z h x ST "coder" "B" (.int cd)) (K : RoadKit.Arv Z h t kb .byte N2 vs (.int 0)) (hc : CodA cs cd N2 vs) (hb : ∀ c ∈ cs, ¬ c < 0 ∧ ¬ (65535 : Int32) < c) (l2 : cs.length ≤ 4000)
    {y t' : Addr} {kb' : ClassId} {ds : List Int32} {cd' N2' : Int32} {vs' : List Value} (E' : RoadKit.Exa Z h y ST) (V' : RoadKit.Fld Z h y ST "value" "[B" (.ref t')) (C' : RoadKit.Fld Z h y ST "coder" "B" (.int cd')) (K' : RoadKit.Arv Z h t' kb' .byte N2' vs' (.int 0)) (hc' : CodA ds cd' N2' vs') (hb' : ∀ c ∈ ds, ¬ c < 0 ∧ ¬ (65535 : Int32) < c) (l2' : ds.length ≤ 4000)
    {z : Int32} (S : RoadKit.Sta Z h ST "COMPACT_STRINGS" "Z" (.int z)) (hz : ¬ z = 0) (hfr : 2 ≤ R.frames) (hlo : W + 28 ≤ R.locals) :
    Back l R p e below s args (⟨"java/lang/String", "equals", "(Ljava/lang/Object;)Z"⟩ : MethodName) len W (fun P a => a = #[.ref x, .ref y] ∧ P.U.heap = h ∧ P.cells + 0 ≤ R.cells ∧ P.slots + 0 ≤ R.slots)
      (fun P _ v B => ∃ L, (((v = some (.int 1) ∧ cs = ds) ∨ (v = some (.int 0) ∧ ¬ cs = ds)) ∧ L = [] ∧ B.U.heap = h) ∧ B.locs = P.locs ++ L ∧ B.cells = P.cells + 0 ∧ B.slots = P.slots + 0) := by
  intro m meth c P g ig mk a X hg hsize hdg hW hn hp'
  obtain ⟨rfl, rfl, r1, r2⟩ := hp'
  have al : Z.vm.Alike P.U.vm := hZ.alike.trans X.warmed.alike
  obtain ⟨A, hx⟩ := txt_of wi al E V C K hc hb l2
  obtain ⟨A', hy⟩ := txt_of wi al E' V' C' K' hc' hb' l2'
  obtain ⟨v, B, X', ⟨⟨w, hv, hh, hq⟩, hl, hk, hs⟩, st⟩ := SEq.pays x t A cd cs.length (fun j => cs.getD j 0) y t' A' cd' ds.length (fun j => ds.getD j 0) z (tabEq_of (movedEq hZ hw)) hfr hlo m meth c P g ig mk _ X hg hsize hdg hW hn ⟨r1, r2, rfl, hx, hy, sta_is al S, hz⟩
  refine ⟨v, B, X', ⟨[], ⟨?_, rfl, hh⟩, hl, hk, hs⟩, st⟩
  rcases hq with ⟨rfl, q⟩ | ⟨rfl, q⟩
  · exact Or.inl ⟨hv, (same_list cs ds).mp q⟩
  · exact Or.inr ⟨hv, fun e => q ((same_list cs ds).mpr e)⟩
end StrChars.Road
namespace StrChars
open Jvm Sem ClassFile Op Lib Jvm.Stand Jvm.Free.XT Jvm.Free.ALB Jvm.Free.JM Jvm.Free
open Jvm.Lib.Cold (StaticIs)
namespace ChN
def yN : MethodName := ⟨"java/lang/String", "charAt", "(I)C"⟩
abbrev yB : ByteArray := jdk_42_method_56_code
theorem d0 : decode yB 0 = .ok (.aload_n 0, 1) := by decide +kernel
theorem d1 : decode yB 1 = .ok (.invokevirtual 492, 3) := by decide +kernel
theorem d4 : decode yB 4 = .ok (.ifCond (.eq) 12, 3) := by decide +kernel
theorem d7 : decode yB 7 = .ok (.aload_n 0, 1) := by decide +kernel
theorem d8 : decode yB 8 = .ok (.getfield 9, 3) := by decide +kernel
theorem d11 : decode yB 11 = .ok (.iload_n 1, 1) := by decide +kernel
theorem d12 : decode yB 12 = .ok (.invokestatic 495, 3) := by decide +kernel
theorem d15 : decode yB 15 = .ok (.ireturn, 1) := by decide +kernel
def site : List Cond := [.fieldLink "java/lang/String" 9 "java/lang/String" "value" "[B", IsL.tab, LChA.tab] ++ virtW "java/lang/String" 492 "java/lang/String" IsL.yN IsL.yN ++ staticW "java/lang/String" 495 LChA.yN
def tab : Cond := tabOf yN yB 2 (some .char) site
def P (x t : Addr) (V : Cell) (n : Nat) (f : Nat → Int32) (z : Int32) (fm : Value) (i : Nat) (args : Array Value) (s : State) : Prop := args = #[.ref x, .int (Int32.ofNat i)] ∧ Txt x t V 0 n f s ∧ i < n ∧ StaticIs s "java/lang/String" "COMPACT_STRINGS" "Z" (.int z) ∧ ¬ z = 0 ∧ StaticIs s "jdk/internal/util/Preconditions" "SIOOBE_FORMATTER" "Ljava/util/function/BiFunction;" fm ∧ fm.isRef = true
def E (f : Nat → Int32) (i : Nat) (r : Option Value) (s u : State) : Prop := XT.PureE (some (.int (f i))) r s u
/-- charAt(i) of a Latin-1 String of n chars, i < n: f i -/
theorem law (l : Launch) (x t : Addr) (V : Cell) (n : Nat) (f : Nat → Int32) (z : Int32) (fm : Value) (i : Nat) : Law l yN 2 1 3 40 yB 2 (some .char) site (P x t V n f z fm i) (E f i) [] 0 0 := by
  refine Law.of_walk (plainFor_of_name (by decide +kernel)) (by decide +kernel) (by decide +kernel) (by decide) (fun _ _ h => by rw [h.1]; rfl) (fun _ U U' hal hh h => ⟨h.1, h.2.1.mv hal hh, h.2.2.1, h.2.2.2.1.there hal hh, h.2.2.2.2.1, h.2.2.2.2.2.1.there hal hh, h.2.2.2.2.2.2⟩) (fun r U U' V V' h1 hal h2 h => XT.PureE.mv r U U' V V' h1 hal h2 h) ?_
  intro p e s m args below meth c s₁ X0 hexec hbytes hml hret hlk hnm hown hh0 W hP
  obtain ⟨rfl, hx, hi, s1, hz, s3, rf⟩ := hP
  have v31 := hx.2.2.2.1.2.2.2
  have hr := hx.2.2.2.2.2 i hi
  have hx0 := hx.mv X0.warmed.alike hh0
  have c1 : Steps p.tables e below (s₁.setTop (entryFrame m #[.ref x, .int (Int32.ofNat i)] 2)) (s₁.setTop (mkF m 1 #[.val (.ref x), .val (.int (Int32.ofNat i))] [.ref x])) := Steps.trans (entry rfl) (by
    show Steps p.tables e below (s₁.setTop (mkF m 0 #[.val (.ref x), .val (.int (Int32.ofNat i))] [])) _
    refine XS.aloadN X0.here hexec rfl (hb hbytes d0) rfl rfl ?_
    exact Steps.refl _)
  obtain ⟨v2, T2, X2, E2, g2⟩ := X0.callV hexec (IsL.law l x 0 z) hown (wks W (virtW "java/lang/String" 492 "java/lang/String" IsL.yN IsL.yN)) rfl (by decide) (wk W IsL.tab) (W := 0) (Nat.le_of_ble_eq_true rfl) (Nat.le_of_ble_eq_true rfl) (Nat.le_refl _) (Nat.le_refl _) (hx0.1.fc X0.warmed.alike) hx0.1.is (g := (mkF m 1 #[.val (.ref x), .val (.int (Int32.ofNat i))] [.ref x])) rfl (by rw [hml]; rfl) c1 (argsL := []) (rest := []) rfl rfl (by show 2 * 0 + 0 ≤ _; decide) (hb hbytes d1) (⟨rfl, hx0.2.2.1, hx.2.2.2.2.1.cd, s1.there X0.warmed.alike hh0, hz⟩)
  obtain ⟨rfl, q2⟩ := E2
  have hh2 := q2.trans hh0
  have hx2 := hx.mv X2.warmed.alike hh2
  obtain ⟨-, k1, k2⟩ | ⟨k0, -⟩ := hx.2.2.2.2.1
  · have c3 : Steps p.tables e below (s₁.setTop (entryFrame m #[.ref x, .int (Int32.ofNat i)] 2)) (T2.setTop (mkF m 8 #[.val (.ref x), .val (.int (Int32.ofNat i))] [.ref x])) := Steps.trans g2 (by
      refine XS.ifNo X2.here hexec rfl (hb hbytes d4) rfl (i0_eq_f (by decide)) ?_
      refine XS.aloadN X2.here hexec rfl (hb hbytes d7) rfl rfl ?_
      exact Steps.refl _)
    obtain ⟨T4, X4, q4, st4⟩ := X2.hget hexec hown (wk W (.fieldLink "java/lang/String" 9 "java/lang/String" "value" "[B")) hx2.2.1 (g := (mkF m 8 #[.val (.ref x), .val (.int (Int32.ofNat i))] [.ref x])) rfl (rest := []) rfl (hb hbytes d8)
    have hh4 := q4.trans hh2
    have c5 : Steps p.tables e below (s₁.setTop (entryFrame m #[.ref x, .int (Int32.ofNat i)] 2)) (T4.setTop (mkF m 12 #[.val (.ref x), .val (.int (Int32.ofNat i))] [.int (Int32.ofNat i), .ref t])) := (c3.trans (st4 _ (Steps.refl _))).trans (by
      refine XS.iloadN X4.here hexec rfl (hb hbytes d11) rfl ?_
      exact Steps.refl _)
    obtain ⟨v6, T6, X6, E6, g6⟩ := X4.callS hexec (LChA.law l t V i (lo8 (f i)) fm) hown (wks W (staticW "java/lang/String" 495 LChA.yN)) (wk W LChA.tab) (W := 0) (Nat.le_of_ble_eq_true rfl) (Nat.le_of_ble_eq_true rfl) (Nat.le_refl _) (Nat.le_refl _) (g := (mkF m 12 #[.val (.ref x), .val (.int (Int32.ofNat i))] [.int (Int32.ofNat i), .ref t])) rfl (by rw [hml]; rfl) c5 (argsL := [.ref t, .int (Int32.ofNat i)]) (rest := []) rfl rfl (by show 2 * 0 + 0 ≤ _; decide) (hb hbytes d12) (⟨rfl, hx.2.2.2.1.mv X4.warmed.alike hh4, (k2 i hi).1, s3.there X4.warmed.alike hh4, rf⟩)
    obtain ⟨rfl, q6⟩ := E6
    rw [chr8_lo8 hr.1 (k2 i hi).2] at g6
    exact ⟨T6, some (.int (f i)), _, _, _, X6, rfl, rfl, rfl, (fun h => by cases h), ⟨rfl, q6.trans hh4⟩, fun fs hl => Steps.trans g6 (X6.ireturnOut hexec hret (narrow_ch hr.1 hr.2) (Or.inr (Or.inr (Or.inr (Or.inl rfl)))) (hb hbytes d15) hl)⟩
  · exact absurd k0 (by decide)
theorem pays {l : Launch} {R : Room} {p : Program} {e : Env} {below : List Frame} {s : State} {sargs : Array Value} {len W : Nat} (x t : Addr) (V : Cell) (n : Nat) (f : Nat → Int32) (z : Int32) (fm : Value) (i : Nat) (htab : tab.before sargs s = true) (hfr : 4 ≤ R.frames) (hlo : W + 53 ≤ R.locals) :
    Back l R p e below s sargs yN len W (fun A₁ a₁ => A₁.cells + 0 ≤ R.cells ∧ A₁.slots + 0 ≤ R.slots ∧ P x t V n f z fm i a₁ A₁.U) (fun A₁ _ v₁ B₁ => E f i v₁ A₁.U B₁.U ∧ B₁.locs = A₁.locs ++ [] ∧ B₁.cells = A₁.cells + 0 ∧ B₁.slots = A₁.slots + 0) :=
  (law l x t V n f z fm i).pays htab hfr (by omega)
end ChN
end StrChars
namespace StrChars.Road
open Jvm Sem ClassFile Op Lib Jvm.Stand Jvm.Free Jvm.Free.XT
open Jvm.Lib.Cold (StaticIs)
/-- the words of String.charAt(int), the Latin-1 road alone -/
abbrev wordsChN : List Jvm.Cond := [.code ChN.yN ChN.yB 2 (some .char), .initialized ST, .fieldLink ST 9 ST "value" "[B", .fieldLink ST 38 ST "COMPACT_STRINGS" "Z", .fieldLink ST 15 ST "coder" "B", .code IsL.yN IsL.yB 1 (some .boolean), .methodLink ST 492 IsL.yN, .declares IsL.yN, .selects ST IsL.yN IsL.yN, .instanceMethod IsL.yN,
  .methodLink ST 495 LChA.yN, .static LChA.yN, .code LChA.yN LChA.yB 2 (some .char), .initialized "java/lang/StringLatin1", .methodLink "java/lang/StringLatin1" 9 JO.Str_checkIndex.yN, .static JO.Str_checkIndex.yN, .code JO.Str_checkIndex.yN JO.Str_checkIndex.yB 2 none,
  .fieldLink ST 1053 "jdk/internal/util/Preconditions" "SIOOBE_FORMATTER" "Ljava/util/function/BiFunction;", .methodLink ST 1059 JC.PreCheck.yN, .static JC.PreCheck.yN, .code JC.PreCheck.yN JC.PreCheck.yB 3 (some .int), .initialized "jdk/internal/util/Preconditions"]
theorem tabChN_of {a : Array Value} {s : State} (h : ∀ w ∈ wordsChN, w.before a s = true) : ChN.tab.before a s = true := by
  have hp : JC.PreCheck.tab.before a s = true := unparts (wk h (.code JC.PreCheck.yN JC.PreCheck.yB 3 (some .int))) (wks h (.initialized JC.PreCheck.yN.cls :: JC.PreCheck.site))
  have qk := consq hp h
  have hk : JO.Str_checkIndex.tab.before a s = true := unparts (wk qk (.code JO.Str_checkIndex.yN JO.Str_checkIndex.yB 2 none)) (wks qk (.initialized JO.Str_checkIndex.yN.cls :: JO.Str_checkIndex.site))
  have ql := consq hk h
  have hl : LChA.tab.before a s = true := unparts (wk ql (.code LChA.yN LChA.yB 2 (some .char))) (wks ql (.initialized LChA.yN.cls :: LChA.site))
  have hi : IsL.tab.before a s = true := unparts (wk h (.code IsL.yN IsL.yB 1 (some .boolean))) (wks h (.initialized IsL.yN.cls :: IsL.site))
  have q := consq hi (consq hl h)
  exact unparts (wk q (.code ChN.yN ChN.yB 2 (some .char))) (wks q (.initialized ChN.yN.cls :: ChN.site))
theorem movedChN {Z s : State} {a0 args : Array Value} (hZ : Z.Warmed39 s.vm) (hw : ∀ d ∈ wordsChN, d.before a0 Z = true) : ∀ d ∈ wordsChN, d.before args s = true := fun d hd => by
  have t : ∀ d ∈ wordsChN, (d.onTables && d.keepsFace) = true := by decide +kernel
  exact RoadKit.mv hZ (hw d hd) (t d hd)
/-- **charAt(i) OF A LATIN-1 STRING**, i < n: the char -/
theorem chN {p : Program} {l : Launch} {e : Env} {R : Room} {s : State} {args : Array Value} {below : List Frame} {len W : Nat} {Z : State} {a0 : Array Value} {h : Heap} (hZ : Z.Warmed39 s.vm) (hw : ∀ d ∈ wordsChN, d.before a0 Z = true) {kI : Nat} (wi : (Jvm.Cond.instantiable ST kI).before a0 Z = true)
    {x t : Addr} {kb : ClassId} {cs : List Int32} {N2 z : Int32} {vs : List Value} {fm : Value} {i : Nat} {j : Int32} (E : RoadKit.Exa Z h x ST) (V : RoadKit.Fld Z h x ST "value" "[B" (.ref t)) (C : RoadKit.Fld Z h x ST "coder" "B" (.int 0)) (K : RoadKit.Arv Z h t kb .byte N2 vs (.int 0)) (hc : CodA cs 0 N2 vs) (hb : ∀ c ∈ cs, ¬ c < 0 ∧ ¬ (65535 : Int32) < c)
    (S : RoadKit.Sta Z h ST "COMPACT_STRINGS" "Z" (.int z)) (hz : ¬ z = 0) (F : RoadKit.Sta Z h "jdk/internal/util/Preconditions" "SIOOBE_FORMATTER" "Ljava/util/function/BiFunction;" fm) (rf : fm.isRef = true) (l2 : cs.length ≤ 4000) (hi : i < cs.length) (hj : j = Int32.ofNat i) (hfr : 4 ≤ R.frames) (hlo : W + 53 ≤ R.locals) :
    Back l R p e below s args (⟨"java/lang/String", "charAt", "(I)C"⟩ : MethodName) len W (fun P a => a = #[.ref x, .int j] ∧ P.U.heap = h ∧ P.cells + 0 ≤ R.cells ∧ P.slots + 0 ≤ R.slots)
      (fun P _ v B => ∃ L, (v = some (.int (cs.getD i 0)) ∧ L = [] ∧ B.U.heap = h) ∧ B.locs = P.locs ++ L ∧ B.cells = P.cells + 0 ∧ B.slots = P.slots + 0) := by
  subst hj
  intro m meth c P g ig mk a X hg hsize hdg hW hn hp'
  obtain ⟨rfl, rfl, r1, r2⟩ := hp'
  have al : Z.vm.Alike P.U.vm := hZ.alike.trans X.warmed.alike
  obtain ⟨A, hx⟩ := txt_of wi al E V C K hc hb l2
  obtain ⟨v, B, X', ⟨⟨hv, hh⟩, hl, hk, hs⟩, st⟩ := ChN.pays x t A cs.length (fun j => cs.getD j 0) z fm i (tabChN_of (movedChN hZ hw)) hfr hlo m meth c P g ig mk _ X hg hsize hdg hW hn ⟨r1, r2, rfl, hx, hi, sta_is al S, hz, sta_is al F, rf⟩
  exact ⟨v, B, X', ⟨[], ⟨hv, rfl, hh⟩, hl, hk, hs⟩, st⟩
/-- what backV says of its String, as the contracts of this text ask it: cs's low bytes, coder 0 -/
theorem codOf {cs : List Int32} {n : Nat} (hn : cs.length = n) (hb : ∀ c ∈ cs, ¬ 255 < c) : CodA cs 0 (Int32.ofNat n) ((cs.map lo8).map Value.int) := Or.inl ⟨rfl, by rw [hn], by simp [List.map_map, Function.comp_def], hb⟩
end StrChars.Road
end Jvm.Pilot.@@N@@
namespace Jvm.Pilot.@@N@@
open Jvm Jvm.ClassFile Sem Op Lib Jvm.Free Jvm.Stand Jvm.LawKit Jvm.RoadKit Bundle Jvm.Pilot.@@N@@.Jvm.D
section OwnStr
variable {p : Program} {l : Launch} {e : Env} {R : Room} {s : State} {m : MethodId} {args : Array Value} {below : List Frame} {meth : Method} {c : Code} {Z : State} {EL : List (String × Nat)} {n0 : Nat} {own : String} {code : ByteArray} {ml : Nat} {bw : Bool} {vm : Vm} {T : State} {h h' : Heap} {locs : List Loc} {cells slots : Nat} {a0 : Array Value} {x t : Addr} {cs : List Int32} {len W : Nat} {ws : List Addr}
/-- the String at x, its bytes at t, spells cs -/
def Str (Z : State) (h : Heap) (x t : Addr) (cs : List Int32) : Prop := Exa Z h x "java/lang/String" ∧ (∃ (cd N : Int32) (vs : List Value) (kb : ClassId), Fld Z h x "java/lang/String" "value" "[B" (.ref t) ∧ Fld Z h x "java/lang/String" "coder" "B" (.int cd) ∧ Arv Z h t kb .byte N vs (.int 0) ∧ StrChars.Road.CodA cs cd N vs) ∧ (∀ c ∈ cs, ¬ c < 0 ∧ ¬ (65535 : Int32) < c) ∧ cs.length ≤ 4000
theorem Str.ext (E : Ext h h') (F : Str Z h x t cs) : Str Z h' x t cs := by
  obtain ⟨a1, ⟨cd, N, vs, kb, b1, b2, b3, b4⟩, r⟩ := F; exact ⟨a1.ext E, ⟨cd, N, vs, kb, b1.ext E, b2.ext E, b3.ext E, b4⟩, r⟩
theorem Str.keep (F : Str Z h x t cs) (K : Keep h h' ws) (q : x ∉ ws) (q' : t ∉ ws) : Str Z h' x t cs := by
  obtain ⟨a1, ⟨cd, N, vs, kb, b1, b2, b3, b4⟩, r⟩ := F; exact ⟨a1.keep K, ⟨cd, N, vs, kb, b1.keep K q, b2.keep K q, b3.keep K q', b4⟩, r⟩
theorem strLit {b : Addr} {kb : ClassId} {z : Int32} {vs : List Value} (E : Exa Z h x "java/lang/String") (C : Fld Z h x "java/lang/String" "coder" "B" (.int 0)) (V : Fld Z h x "java/lang/String" "value" "[B" (.ref b)) (K : Arv Z h b kb .byte z vs (.int 0)) (q : StrChars.Road.CodA cs 0 z vs) (r : ∀ c ∈ cs, ¬ c < 0 ∧ ¬ (65535 : Int32) < c) (r2 : cs.length ≤ 4000) : Str Z h x b cs := ⟨E, ⟨0, z, vs, kb, V, C, K, q⟩, r, r2⟩
theorem Str.open (F : Str Z h x t cs) (lat : ∀ c ∈ cs, ¬ (255 : Int32) < c) : ∃ kb, Fld Z h x "java/lang/String" "value" "[B" (.ref t) ∧ Fld Z h x "java/lang/String" "coder" "B" (.int 0) ∧ Arv Z h t kb .byte (Int32.ofNat cs.length) (cs.map fun c => Value.int (StrChars.lo8 c)) (.int 0) := by
  obtain ⟨a1, ⟨cd, N, vs, kb, b1, b2, b3, b4⟩, r1, r2⟩ := F
  rcases b4 with ⟨rfl, rfl, rfl, -⟩ | ⟨-, -, -, c, hc, q⟩
  · exact ⟨kb, b1, b2, b3⟩
  · exact absurd q (lat c hc)
theorem Str.exa (F : Str Z h x t cs) : Exa Z h x "java/lang/String" := F.1
theorem Str.lt (F : Str Z h x t cs) : x < h.size := F.1.lt
theorem Str.lt' (F : Str Z h x t cs) : t < h.size := by obtain ⟨_, ⟨_, _, _, _, -, -, b3, -⟩, -⟩ := F; exact b3.lt
theorem up8 {c : Int32} (q : ¬ (255 : Int32) < c) : ¬ (65535 : Int32) < c := fun r => q (by rw [Int32.lt_iff_toInt_lt] at r ⊢; have e1 : (65535 : Int32).toInt = 65535 := rfl; have e2 : (255 : Int32).toInt = 255 := rfl; omega)
theorem payLen (A : WS p l e R s m args below meth c Z EL n0 own code ml bw vm T h locs cells slots) (hw : ∀ d ∈ tables_1, d.before a0 Z = true) {kI : Nat} (wi : (Jvm.Cond.instantiable "java/lang/String" kI).before a0 Z = true) (F : Str Z h x t cs) {zc : Int32} (O : Sta Z Z.heap "java/lang/String" "COMPACT_STRINGS" "Z" (.int zc)) (hz : ¬ zc = 0) (hfr : 2 ≤ R.frames) (hlo : W + 25 ≤ R.locals) : BkN l R p e below (s.setVm vm) args (⟨"java/lang/String", "length", "()I"⟩ : MethodName) len W #[.ref x] h n0 [] (fun v h' => v = some (.int (Int32.ofNat cs.length)) ∧ h' = h) 0 0 := by
  obtain ⟨a1, ⟨cd, N, vs, kb, b1, b2, b3, b4⟩, r1, r2⟩ := F
  exact Back.mono (StrChars.Road.lenW A.hZ (fun d hd => hw d ((by decide +kernel : ∀ d ∈ StrChars.Road.wordsLen, d ∈ tables_1) d hd)) wi a1 b1 b2 b3 b4 r1 (O.ext A.old.2) hz r2 hfr hlo) (fun _ _ q => q) (fun B a v B' hp hq => by obtain ⟨L, ⟨q1, rfl, q3⟩, r⟩ := hq; exact ⟨[], ⟨Fr.nil n0, by rw [q3]; exact Keep.refl _ _, q1, q3⟩, r⟩)
theorem payEmp (A : WS p l e R s m args below meth c Z EL n0 own code ml bw vm T h locs cells slots) (hw : ∀ d ∈ tables_1, d.before a0 Z = true) {kI : Nat} (wi : (Jvm.Cond.instantiable "java/lang/String" kI).before a0 Z = true) (F : Str Z h x t cs) (hfr : 1 ≤ R.frames) (hlo : W + 12 ≤ R.locals) : BkN l R p e below (s.setVm vm) args (⟨"java/lang/String", "isEmpty", "()Z"⟩ : MethodName) len W #[.ref x] h n0 [] (fun v h' => v = some (.int (if cs.length = 0 then 1 else 0)) ∧ h' = h) 0 0 := by
  obtain ⟨a1, ⟨cd, N, vs, kb, b1, b2, b3, b4⟩, r1, r2⟩ := F
  exact Back.mono (StrChars.Road.empW A.hZ (fun d hd => hw d ((by decide +kernel : ∀ d ∈ StrChars.Road.wordsEmp, d ∈ tables_1) d hd)) wi a1 b1 b2 b3 b4 r1 r2 hfr hlo) (fun _ _ q => q) (fun B a v B' hp hq => by obtain ⟨L, ⟨q1, rfl, q3⟩, r⟩ := hq; exact ⟨[], ⟨Fr.nil n0, by rw [q3]; exact Keep.refl _ _, q1, q3⟩, r⟩)
theorem payCh (A : WS p l e R s m args below meth c Z EL n0 own code ml bw vm T h locs cells slots) (hw : ∀ d ∈ tables_1, d.before a0 Z = true) {kI : Nat} (wi : (Jvm.Cond.instantiable "java/lang/String" kI).before a0 Z = true) (F : Str Z h x t cs) (lat : ∀ c ∈ cs, ¬ (255 : Int32) < c) {zc : Int32} (O : Sta Z Z.heap "java/lang/String" "COMPACT_STRINGS" "Z" (.int zc)) (hz : ¬ zc = 0) {fm : Value} (O4 : Sta Z Z.heap "jdk/internal/util/Preconditions" "SIOOBE_FORMATTER" "Ljava/util/function/BiFunction;" fm) (rf : fm.isRef = true) (i : Nat) (hi : i < cs.length) {j : Int32} (hj : j = Int32.ofNat i) (hfr : 4 ≤ R.frames) (hlo : W + 53 ≤ R.locals) : BkN l R p e below (s.setVm vm) args (⟨"java/lang/String", "charAt", "(I)C"⟩ : MethodName) len W #[.ref x, .int j] h n0 [] (fun v h' => v = some (.int (cs.getD i 0)) ∧ h' = h) 0 0 := by
  obtain ⟨a1, ⟨cd, N, vs, kb, b1, b2, b3, b4⟩, r1, r2⟩ := F
  obtain rfl : cd = 0 := by
    rcases b4 with ⟨q, -⟩ | ⟨-, -, -, c, hc, q⟩
    · exact q
    · exact absurd q (lat c hc)
  exact Back.mono (StrChars.Road.chN A.hZ (fun d hd => hw d ((by decide +kernel : ∀ d ∈ StrChars.Road.wordsChN, d ∈ tables_1) d hd)) wi a1 b1 b2 b3 b4 r1 (O.ext A.old.2) hz (O4.ext A.old.2) rf r2 hi hj hfr hlo) (fun _ _ q => q) (fun B a v B' hp hq => by obtain ⟨L, ⟨q1, rfl, q3⟩, r⟩ := hq; exact ⟨[], ⟨Fr.nil n0, by rw [q3]; exact Keep.refl _ _, q1, q3⟩, r⟩)
theorem payEq (A : WS p l e R s m args below meth c Z EL n0 own code ml bw vm T h locs cells slots) (hw : ∀ d ∈ tables_1, d.before a0 Z = true) {kI : Nat} (wi : (Jvm.Cond.instantiable "java/lang/String" kI).before a0 Z = true) (F : Str Z h x t cs) {y u : Addr} {ds : List Int32} (G : Str Z h y u ds) {zc : Int32} (O : Sta Z Z.heap "java/lang/String" "COMPACT_STRINGS" "Z" (.int zc)) (hz : ¬ zc = 0) (hfr : 2 ≤ R.frames) (hlo : W + 28 ≤ R.locals) : BkN l R p e below (s.setVm vm) args (⟨"java/lang/String", "equals", "(Ljava/lang/Object;)Z"⟩ : MethodName) len W #[.ref x, .ref y] h n0 [] (fun v h' => v = some (.int (if cs = ds then 1 else 0)) ∧ h' = h) 0 0 := by
  obtain ⟨a1, ⟨cd, N, vs, kb, b1, b2, b3, b4⟩, r1, r2⟩ := F
  obtain ⟨a1', ⟨cd', N', vs', kb', b1', b2', b3', b4'⟩, r1', r2'⟩ := G
  refine Back.mono (StrChars.Road.eqW A.hZ (fun d hd => hw d ((by decide +kernel : ∀ d ∈ StrChars.Road.wordsEq, d ∈ tables_1) d hd)) wi a1 b1 b2 b3 b4 r1 r2 a1' b1' b2' b3' b4' r1' r2' (O.ext A.old.2) hz hfr hlo) (fun _ _ q => q) (fun B a v B' hp hq => ?_)
  obtain ⟨L, ⟨q1, rfl, q3⟩, r⟩ := hq
  refine ⟨[], ⟨Fr.nil n0, by rw [q3]; exact Keep.refl _ _, ?_, q3⟩, r⟩
  rcases q1 with ⟨rfl, q⟩ | ⟨rfl, q⟩
  · rw [if_pos q]
  · rw [if_neg q]
theorem payNew (A : WS p l e R s m args below meth c Z EL n0 own code ml bw vm T h locs cells slots) (hw : ∀ d ∈ tables_1, d.before a0 Z = true) {kI : Nat} (wi : (Jvm.Cond.instantiable "java/lang/String" kI).before a0 Z = true) {b : Addr} {kC : ClassId} {d v0 c0 : Value} {N : Int32} (n : Nat) (gx : n0 ≤ x) (E : Exa Z h x "java/lang/String") (V : Fld Z h x "java/lang/String" "value" "[B" v0) (C : Fld Z h x "java/lang/String" "coder" "B" c0) (K : Arv Z h b kC .char N (cs.map Value.int) d) {zc : Int32} (O : Sta Z Z.heap "java/lang/String" "COMPACT_STRINGS" "Z" (.int zc)) (hz : ¬ zc = 0) (hn : cs.length = n) (hN : N = Int32.ofNat n) (l0 : 0 < n) (l2 : n ≤ 4000) (hp : ∀ c ∈ cs, ¬ c < 0 ∧ ¬ (255 : Int32) < c) (hfr : 4 ≤ R.frames) (hlo : W + 65 ≤ R.locals) :
    BkN l R p e below (s.setVm vm) args (⟨"java/lang/String", "<init>", "([C)V"⟩ : MethodName) len W #[.ref x, .ref b] h n0 [x] (fun v h' => v = none ∧ ∃ t : Addr, n0 ≤ t ∧ h.size ≤ t ∧ ¬ t = x ∧ Str Z h' x t cs) 1 n := by
  refine Back.mono (StrChars.Road.backV A.hZ (fun d hd => hw d ((by decide +kernel : ∀ d ∈ StrChars.Road.words, d ∈ tables_1) d hd)) wi gx A.sz E V C K (O.ext A.old.2) hz hn hN l0 l2 hp rfl hfr hlo) (fun _ _ q => q) (fun B a v B' hp' hq => ?_)
  obtain ⟨L, ⟨rfl, q2, q3, q4, q5, t, kb, q6, q7, q8, q9, q10⟩, r⟩ := hq
  exact ⟨L, ⟨q2, q3, rfl, t, q6, q7, q8, q4, ⟨0, N, _, kb, q9, q5, q10, by rw [hN]; exact StrChars.Road.codOf hn fun c hc => (hp c hc).2⟩, fun c hc => ⟨(hp c hc).1, up8 (hp c hc).2⟩, by omega⟩, r⟩
end OwnStr
end Jvm.Pilot.@@N@@
namespace Jvm.Pilot.@@N@@
open Jvm Jvm.ClassFile Sem Op Lib Jvm.Free Jvm.Stand Jvm.LawKit Jvm.RoadKit Bundle Jvm.Pilot.@@N@@.Jvm.D
theorem ln {P : Int32 → Prop} : ∀ c ∈ ([] : List Int32), P c := fun _ q => nomatch q
theorem lc {P : Int32 → Prop} {a : Int32} {L : List Int32} (q : P a) (r : ∀ c ∈ L, P c) : ∀ c ∈ a :: L, P c := fun c z => (List.mem_cons.mp z).elim (fun u => u ▸ q) (r c)
theorem chr_id {z : Int32} (q : 0 ≤ z.toInt ∧ z.toInt ≤ 65535) : z.toUInt32.toUInt16.toUInt32.toInt32 = z := by
  have a := c_i2c z; exact Int32.toInt_inj.mp (by omega)
theorem nar_id {z : Int32} (q : 0 ≤ z.toInt ∧ z.toInt ≤ 65535) : nar .char z = z := chr_id q
theorem chr_rng (z : Int32) : 0 ≤ (z.toUInt32.toUInt16.toUInt32.toInt32).toInt ∧ (z.toUInt32.toUInt16.toUInt32.toInt32).toInt ≤ 65535 := by
  have a := c_i2c z; omega
theorem lat_of {z : Int32} (q : 0 ≤ z.toInt ∧ z.toInt ≤ 255) : ¬ z < 0 ∧ ¬ (255 : Int32) < z := by
  rw [Int32.lt_iff_toInt_lt, Int32.lt_iff_toInt_lt]; have e1 : (255 : Int32).toInt = 255 := rfl; have e2 : (0 : Int32).toInt = 0 := rfl; omega
theorem of_lat {z : Int32} (q : ¬ z < 0 ∧ ¬ (255 : Int32) < z) : 0 ≤ z.toInt ∧ z.toInt ≤ 255 := by
  rw [Int32.lt_iff_toInt_lt, Int32.lt_iff_toInt_lt] at q; have e1 : (255 : Int32).toInt = 255 := rfl; have e2 : (0 : Int32).toInt = 0 := rfl; omega
theorem lt_i {x y : Int32} : x < y ↔ x.toInt < y.toInt := Int32.lt_iff_toInt_lt
theorem and255 (x : Int32) : 0 ≤ (x &&& 255).toInt ∧ (x &&& 255).toInt ≤ 255 := c_and x 255 (by decide)
def fstK (k : Int32) : Int32 := if k < 26 then 65 + k else if k < 52 then 97 + (k - 26) else 48 + (k - 52)
def rstK (k : Int32) : Int32 := if k < 62 then fstK k else if k = 62 then 46 else if k = 63 then 95 else 45
def Lod (c : Int32) : Prop := (¬ c < 65 ∧ ¬ 90 < c) ∨ (¬ c < 97 ∧ ¬ 122 < c) ∨ (¬ c < 48 ∧ ¬ 57 < c)
def OkC (c : Int32) : Prop := Lod c ∨ c = 46 ∨ c = 95 ∨ c = 45
instance (c : Int32) : Decidable (Lod c) := by unfold Lod; infer_instance
theorem lits : (0 : Int32).toInt = 0 ∧ (26 : Int32).toInt = 26 ∧ (52 : Int32).toInt = 52 ∧ (62 : Int32).toInt = 62 ∧ (65 : Int32).toInt = 65 ∧ (97 : Int32).toInt = 97 ∧ (48 : Int32).toInt = 48 ∧ (90 : Int32).toInt = 90 ∧ (122 : Int32).toInt = 122 ∧ (57 : Int32).toInt = 57 ∧ (46 : Int32).toInt = 46 ∧ (95 : Int32).toInt = 95 ∧ (45 : Int32).toInt = 45 ∧ (63 : Int32).toInt = 63 ∧ (255 : Int32).toInt = 255 := by decide
theorem k1 {k : Int32} (r : 0 ≤ k.toInt ∧ k.toInt < 62) (q : k < 26) : (65 + k).toInt = 65 + k.toInt := by
  have a := c_iadd 65 k; have b := rng32 (65 + k); have l := lits; rw [lt_i] at q; omega
theorem k2 {k : Int32} (r : 0 ≤ k.toInt ∧ k.toInt < 62) (q : ¬ k < 26) (q' : k < 52) : (97 + (k - 26)).toInt = 71 + k.toInt := by
  have a := c_isub k 26; have b := rng32 (k - 26); have a' := c_iadd 97 (k - 26); have b' := rng32 (97 + (k - 26)); have l := lits; rw [lt_i] at q q'; omega
theorem k3 {k : Int32} (r : 0 ≤ k.toInt ∧ k.toInt < 62) (q : ¬ k < 52) : (48 + (k - 52)).toInt = k.toInt - 4 := by
  have a := c_isub k 52; have b := rng32 (k - 52); have a' := c_iadd 48 (k - 52); have b' := rng32 (48 + (k - 52)); have l := lits; rw [lt_i] at q; omega
theorem fst_rng {k : Int32} (r : 0 ≤ k.toInt ∧ k.toInt < 62) : 0 ≤ (fstK k).toInt ∧ (fstK k).toInt ≤ 255 := by
  unfold fstK; split
  · rename_i q; rw [k1 r q]; omega
  · split
    · rename_i q q'; rw [k2 r q q']; omega
    · rename_i q; rw [k3 r q]; have l := lits; rw [lt_i] at q; omega
theorem fst_lod {k : Int32} (r : 0 ≤ k.toInt ∧ k.toInt < 62) : Lod (fstK k) := by
  have l := lits
  unfold fstK; split
  · rename_i q; unfold Lod; simp only [lt_i]; rw [k1 r q]; rw [lt_i] at q; omega
  · split
    · rename_i q q'; unfold Lod; simp only [lt_i]; rw [k2 r q q']; rw [lt_i] at q q'; omega
    · rename_i q; unfold Lod; simp only [lt_i]; rw [k3 r q]; rw [lt_i] at q; omega
theorem rst_rng {k : Int32} (r : 0 ≤ k.toInt ∧ k.toInt < 65) : 0 ≤ (rstK k).toInt ∧ (rstK k).toInt ≤ 255 := by
  have l := lits
  unfold rstK; split
  · rename_i q; rw [lt_i] at q; exact fst_rng (by omega)
  · split
    · decide
    · split <;> decide
theorem rst_ok {k : Int32} (r : 0 ≤ k.toInt ∧ k.toInt < 65) : OkC (rstK k) := by
  have l := lits
  unfold rstK OkC; split
  · rename_i q; rw [lt_i] at q; exact Or.inl (fst_lod (by omega))
  · split
    · exact Or.inr (Or.inl rfl)
    · split
      · exact Or.inr (Or.inr (Or.inl rfl))
      · exact Or.inr (Or.inr (Or.inr rfl))
theorem msk (x : Int32) : 0 ≤ (x &&& 2147483647).toInt := (c_and x 2147483647 (by decide)).1
theorem rem62 (x : Int32) : 0 ≤ ((x &&& 2147483647) % 62).toInt ∧ ((x &&& 2147483647) % 62).toInt < 62 := by
  have a := (c_irem (x &&& 2147483647) 62 62 rfl).1 (msk x); rw [a]; omega
theorem rem65 (x : Int32) : 0 ≤ ((x &&& 2147483647) % 65).toInt ∧ ((x &&& 2147483647) % 65).toInt < 65 := by
  have a := (c_irem (x &&& 2147483647) 65 65 rfl).1 (msk x); rw [a]; omega
theorem rem_self {k : Int32} (r : 0 ≤ k.toInt ∧ k.toInt < 62) : (k &&& 2147483647) % 62 = k := by
  have m := c_mask k 2147483647 31 (by decide) (by decide)
  have e : k &&& 2147483647 = k := Int32.toInt_inj.mp (by rw [m]; omega)
  rw [e]; have a := (c_irem k 62 62 rfl).1 r.1; exact Int32.toInt_inj.mp (by rw [a]; omega)
theorem pn0 : plainName "com/example/await_in_turn/awaitinturn/LockNameOfPinLaw" = true := by first | (simp [plainName, overriddenIn]; done) | decide +kernel
theorem d3_0 : decode method_2_code 0 = .ok (.iload_n 0, 1) := by decide +kernel
theorem d3_1 : decode method_2_code 1 = .ok (.ldc 7, 2) := by decide +kernel
theorem d3_3 : decode method_2_code 3 = .ok (.iand, 1) := by decide +kernel
theorem d3_4 : decode method_2_code 4 = .ok (.bipush 62, 2) := by decide +kernel
theorem d3_6 : decode method_2_code 6 = .ok (.irem, 1) := by decide +kernel
theorem d3_7 : decode method_2_code 7 = .ok (.istore_n 1, 1) := by decide +kernel
theorem d3_8 : decode method_2_code 8 = .ok (.iload_n 1, 1) := by decide +kernel
theorem d3_9 : decode method_2_code 9 = .ok (.bipush 26, 2) := by decide +kernel
theorem d3_11 : decode method_2_code 11 = .ok (.if_icmp .ge 9, 3) := by decide +kernel
theorem d3_14 : decode method_2_code 14 = .ok (.bipush 65, 2) := by decide +kernel
theorem d3_16 : decode method_2_code 16 = .ok (.iload_n 1, 1) := by decide +kernel
theorem d3_17 : decode method_2_code 17 = .ok (.iadd, 1) := by decide +kernel
theorem d3_18 : decode method_2_code 18 = .ok (.i2c, 1) := by decide +kernel
theorem d3_19 : decode method_2_code 19 = .ok (.ireturn, 1) := by decide +kernel
theorem d3_20 : decode method_2_code 20 = .ok (.iload_n 1, 1) := by decide +kernel
theorem d3_21 : decode method_2_code 21 = .ok (.bipush 52, 2) := by decide +kernel
theorem d3_23 : decode method_2_code 23 = .ok (.if_icmp .ge 12, 3) := by decide +kernel
theorem d3_26 : decode method_2_code 26 = .ok (.bipush 97, 2) := by decide +kernel
theorem d3_28 : decode method_2_code 28 = .ok (.iload_n 1, 1) := by decide +kernel
theorem d3_29 : decode method_2_code 29 = .ok (.bipush 26, 2) := by decide +kernel
theorem d3_31 : decode method_2_code 31 = .ok (.isub, 1) := by decide +kernel
theorem d3_32 : decode method_2_code 32 = .ok (.iadd, 1) := by decide +kernel
theorem d3_33 : decode method_2_code 33 = .ok (.i2c, 1) := by decide +kernel
theorem d3_34 : decode method_2_code 34 = .ok (.ireturn, 1) := by decide +kernel
theorem d3_35 : decode method_2_code 35 = .ok (.bipush 48, 2) := by decide +kernel
theorem d3_37 : decode method_2_code 37 = .ok (.iload_n 1, 1) := by decide +kernel
theorem d3_38 : decode method_2_code 38 = .ok (.bipush 52, 2) := by decide +kernel
theorem d3_40 : decode method_2_code 40 = .ok (.isub, 1) := by decide +kernel
theorem d3_41 : decode method_2_code 41 = .ok (.iadd, 1) := by decide +kernel
theorem d3_42 : decode method_2_code 42 = .ok (.i2c, 1) := by decide +kernel
theorem d3_43 : decode method_2_code 43 = .ok (.ireturn, 1) := by decide +kernel
set_option maxRecDepth 65536 in
set_option maxHeartbeats 40000000 in
theorem m_first (l : Launch) (Z : State) (a0 : Array Value) (hw : ∀ d ∈ tables_1, d.before a0 Z = true) (x k : Int32) (h0 : Heap) (n0 : Nat) (ho : Old Z n0 h0) (hk : (x &&& 2147483647) % 62 = k) (r : 0 ≤ k.toInt ∧ k.toInt < 62) :
    CN l (⟨"com/example/await_in_turn/awaitinturn/LockNameOfPinLaw", "first", "(I)C"⟩ : MethodName) method_2_code 2 (some .char) [] ({ frames := 0, cells := 0, slots := 0, locals := 0 } : Room) Z n0 h0 #[(.int x)] [] (fun v h => v = some (.int (fstK k)) ∧ h = h0) := by
  refine CN.walk (plainFor_of_name pn0) ho (L0 := #[.val (.int x), .unset]) (fun m => rfl) ?_
  intro pG e s m below meth cO T hlk hret hnm A0
  have K0 : Keep h0 h0 [] := Keep.refl _ _
  refine f_iloadN A0 d3_0 (pc' := 1) rfl rfl ?_
  refine f_ldcI A0 d3_1 (pc' := 3) rfl (wd hw 14 rfl) ?_
  refine f_iand A0 d3_3 (pc' := 4) rfl (x &&& (2147483647 : Int32)) rfl ?_
  refine f_bipush A0 d3_4 (pc' := 6) rfl 62 rfl ?_
  refine f_irem A0 d3_6 (pc' := 7) rfl (by decide) k hk ?_
  refine f_istoreN A0 d3_7 (pc' := 8) rfl (L' := #[.val (.int x), .val (.int k)]) rfl ?_
  refine f_iloadN A0 d3_8 (pc' := 9) rfl rfl ?_
  refine f_bipush A0 d3_9 (pc' := 11) rfl 26 rfl ?_
  by_cases q1 : k < (26 : Int32)
  · refine f_icN A0 d3_11 (tlt q1).2.1 (pc' := 14) rfl ?_
    refine f_bipush A0 d3_14 (pc' := 16) rfl 65 rfl ?_
    refine f_iloadN A0 d3_16 (pc' := 17) rfl rfl ?_
    refine f_iadd A0 d3_17 (pc' := 18) rfl ((65 : Int32) + k) rfl ?_
    refine f_i2c A0 d3_18 (pc' := 19) rfl ((65 : Int32) + k) (chr_id (by rw [k1 r q1]; have l := lits; have hz := q1; rw [lt_i] at hz; omega)) ?_
    exact f_retBN A0 hlk hret d3_19 (by decide) ((65 : Int32) + k) (nar_id (by rw [k1 r q1]; have l := lits; have hz := q1; rw [lt_i] at hz; omega)) (by decide) (by decide) K0 ⟨by rw [fstK, if_pos q1], rfl⟩
  · refine f_icY A0 d3_11 (flt q1).2.1 (pc' := 20) (by decide) (by decide) ?_
    refine f_iloadN A0 d3_20 (pc' := 21) rfl rfl ?_
    refine f_bipush A0 d3_21 (pc' := 23) rfl 52 rfl ?_
    by_cases q2 : k < (52 : Int32)
    · refine f_icN A0 d3_23 (tlt q2).2.1 (pc' := 26) rfl ?_
      refine f_bipush A0 d3_26 (pc' := 28) rfl 97 rfl ?_
      refine f_iloadN A0 d3_28 (pc' := 29) rfl rfl ?_
      refine f_bipush A0 d3_29 (pc' := 31) rfl 26 rfl ?_
      refine f_isub A0 d3_31 (pc' := 32) rfl (k - (26 : Int32)) rfl ?_
      refine f_iadd A0 d3_32 (pc' := 33) rfl ((97 : Int32) + (k - (26 : Int32))) rfl ?_
      refine f_i2c A0 d3_33 (pc' := 34) rfl ((97 : Int32) + (k - (26 : Int32))) (chr_id (by rw [k2 r q1 q2]; have l := lits; have hz := q2; rw [lt_i] at hz; omega)) ?_
      exact f_retBN A0 hlk hret d3_34 (by decide) ((97 : Int32) + (k - (26 : Int32))) (nar_id (by rw [k2 r q1 q2]; have l := lits; have hz := q2; rw [lt_i] at hz; omega)) (by decide) (by decide) K0 ⟨by rw [fstK, if_neg q1, if_pos q2], rfl⟩
    · refine f_icY A0 d3_23 (flt q2).2.1 (pc' := 35) (by decide) (by decide) ?_
      refine f_bipush A0 d3_35 (pc' := 37) rfl 48 rfl ?_
      refine f_iloadN A0 d3_37 (pc' := 38) rfl rfl ?_
      refine f_bipush A0 d3_38 (pc' := 40) rfl 52 rfl ?_
      refine f_isub A0 d3_40 (pc' := 41) rfl (k - (52 : Int32)) rfl ?_
      refine f_iadd A0 d3_41 (pc' := 42) rfl ((48 : Int32) + (k - (52 : Int32))) rfl ?_
      refine f_i2c A0 d3_42 (pc' := 43) rfl ((48 : Int32) + (k - (52 : Int32))) (chr_id (by rw [k3 r q2]; have l := lits; have hz := q2; rw [lt_i] at hz; omega)) ?_
      exact f_retBN A0 hlk hret d3_43 (by decide) ((48 : Int32) + (k - (52 : Int32))) (nar_id (by rw [k3 r q2]; have l := lits; have hz := q2; rw [lt_i] at hz; omega)) (by decide) (by decide) K0 ⟨by rw [fstK, if_neg q1, if_neg q2], rfl⟩
theorem d25_0 : decode method_3_code 0 = .ok (.iload_n 0, 1) := by decide +kernel
theorem d25_1 : decode method_3_code 1 = .ok (.ldc 7, 2) := by decide +kernel
theorem d25_3 : decode method_3_code 3 = .ok (.iand, 1) := by decide +kernel
theorem d25_4 : decode method_3_code 4 = .ok (.bipush 65, 2) := by decide +kernel
theorem d25_6 : decode method_3_code 6 = .ok (.irem, 1) := by decide +kernel
theorem d25_7 : decode method_3_code 7 = .ok (.istore_n 1, 1) := by decide +kernel
theorem d25_8 : decode method_3_code 8 = .ok (.iload_n 1, 1) := by decide +kernel
theorem d25_9 : decode method_3_code 9 = .ok (.bipush 62, 2) := by decide +kernel
theorem d25_11 : decode method_3_code 11 = .ok (.if_icmp .ge 8, 3) := by decide +kernel
theorem d25_14 : decode method_3_code 14 = .ok (.iload_n 1, 1) := by decide +kernel
theorem d25_15 : decode method_3_code 15 = .ok (.invokestatic 8, 3) := by decide +kernel
theorem pd0 : parseMethodDescriptor "(I)C" = some ⟨[.int], some .char⟩ := by decide +kernel
theorem d25_18 : decode method_3_code 18 = .ok (.ireturn, 1) := by decide +kernel
theorem d25_19 : decode method_3_code 19 = .ok (.iload_n 1, 1) := by decide +kernel
theorem d25_20 : decode method_3_code 20 = .ok (.bipush 62, 2) := by decide +kernel
theorem d25_22 : decode method_3_code 22 = .ok (.if_icmp .ne 6, 3) := by decide +kernel
theorem d25_25 : decode method_3_code 25 = .ok (.bipush 46, 2) := by decide +kernel
theorem d25_27 : decode method_3_code 27 = .ok (.ireturn, 1) := by decide +kernel
theorem d25_28 : decode method_3_code 28 = .ok (.iload_n 1, 1) := by decide +kernel
theorem d25_29 : decode method_3_code 29 = .ok (.bipush 63, 2) := by decide +kernel
theorem d25_31 : decode method_3_code 31 = .ok (.if_icmp .ne 6, 3) := by decide +kernel
theorem d25_34 : decode method_3_code 34 = .ok (.bipush 95, 2) := by decide +kernel
theorem d25_36 : decode method_3_code 36 = .ok (.ireturn, 1) := by decide +kernel
theorem d25_37 : decode method_3_code 37 = .ok (.bipush 45, 2) := by decide +kernel
theorem d25_39 : decode method_3_code 39 = .ok (.ireturn, 1) := by decide +kernel
set_option maxRecDepth 65536 in
set_option maxHeartbeats 40000000 in
theorem m_rest (l : Launch) (Z : State) (a0 : Array Value) (hw : ∀ d ∈ tables_1, d.before a0 Z = true) (x k : Int32) (h0 : Heap) (n0 : Nat) (ho : Old Z n0 h0) (hk : (x &&& 2147483647) % 65 = k) (r : 0 ≤ k.toInt ∧ k.toInt < 65) :
    CN l (⟨"com/example/await_in_turn/awaitinturn/LockNameOfPinLaw", "rest", "(I)C"⟩ : MethodName) method_3_code 2 (some .char) [] ({ frames := 1, cells := 0, slots := 0, locals := 13 } : Room) Z n0 h0 #[(.int x)] [] (fun v h => v = some (.int (rstK k)) ∧ h = h0) := by
  refine CN.walk (plainFor_of_name pn0) ho (L0 := #[.val (.int x), .unset]) (fun m => rfl) ?_
  intro pG e s m below meth cO T hlk hret hnm A0
  have K0 : Keep h0 h0 [] := Keep.refl _ _
  refine f_iloadN A0 d25_0 (pc' := 1) rfl rfl ?_
  refine f_ldcI A0 d25_1 (pc' := 3) rfl (wd hw 14 rfl) ?_
  refine f_iand A0 d25_3 (pc' := 4) rfl (x &&& (2147483647 : Int32)) rfl ?_
  refine f_bipush A0 d25_4 (pc' := 6) rfl 65 rfl ?_
  refine f_irem A0 d25_6 (pc' := 7) rfl (by decide) k hk ?_
  refine f_istoreN A0 d25_7 (pc' := 8) rfl (L' := #[.val (.int x), .val (.int k)]) rfl ?_
  refine f_iloadN A0 d25_8 (pc' := 9) rfl rfl ?_
  refine f_bipush A0 d25_9 (pc' := 11) rfl 62 rfl ?_
  by_cases q1 : k < (62 : Int32)
  · refine f_icN A0 d25_11 (tlt q1).2.1 (pc' := 14) rfl ?_
    have r' : 0 ≤ k.toInt ∧ k.toInt < 62 := by have l := lits; rw [lt_i] at q1; omega
    refine f_iloadN A0 d25_14 (pc' := 15) rfl rfl ?_
    refine f_callS A0 d25_15 (pc' := 18) rfl (wd hw 11 rfl) (wd hw 12 rfl) (wd hw 5 rfl) (wd hw 13 rfl) (by decide) pd0 [(.int k)] [] rfl rfl rfl 0 (Nat.le_of_eq rfl) (CN.pay (W := 0) A0 (m_first l Z a0 hw k k h0 n0 A0.old (rem_self r') r') (wd hw 13 rfl) (wd hw 5 rfl) (by decide) (by decide)) (kc := 0) (ks := 0) (by decide) (by decide) all0 (fun q => nomatch q) fun v1 T1 h1 L1 A1 K1 q1 => ?_
    obtain ⟨rfl, hh1⟩ := q1
    obtain rfl := hh1.symm
    show Wp pG e below _ T1 (mkF m 18 _ [(.int (fstK k))])
    exact f_retBN A1 hlk hret d25_18 (by decide) (fstK k) (nar_id (by have := fst_rng r'; omega)) (by decide) (by decide) K0 ⟨by rw [rstK, if_pos q1], rfl⟩
  · refine f_icY A0 d25_11 (flt q1).2.1 (pc' := 19) (by decide) (by decide) ?_
    refine f_iloadN A0 d25_19 (pc' := 20) rfl rfl ?_
    refine f_bipush A0 d25_20 (pc' := 22) rfl 62 rfl ?_
    by_cases q2 : k = (62 : Int32)
    · refine f_icN A0 d25_22 (teq q2).2 (pc' := 25) rfl ?_
      refine f_bipush A0 d25_25 (pc' := 27) rfl 46 rfl ?_
      exact f_retBN A0 hlk hret d25_27 (by decide) (46 : Int32) (by decide) (by decide) (by decide) K0 ⟨by rw [rstK, if_neg q1, if_pos q2], rfl⟩
    · refine f_icY A0 d25_22 (feq q2).2 (pc' := 28) (by decide) (by decide) ?_
      refine f_iloadN A0 d25_28 (pc' := 29) rfl rfl ?_
      refine f_bipush A0 d25_29 (pc' := 31) rfl 63 rfl ?_
      by_cases q3 : k = (63 : Int32)
      · refine f_icN A0 d25_31 (teq q3).2 (pc' := 34) rfl ?_
        refine f_bipush A0 d25_34 (pc' := 36) rfl 95 rfl ?_
        exact f_retBN A0 hlk hret d25_36 (by decide) (95 : Int32) (by decide) (by decide) (by decide) K0 ⟨by rw [rstK, if_neg q1, if_neg q2, if_pos q3], rfl⟩
      · refine f_icY A0 d25_31 (feq q3).2 (pc' := 37) (by decide) (by decide) ?_
        refine f_bipush A0 d25_37 (pc' := 39) rfl 45 rfl ?_
        exact f_retBN A0 hlk hret d25_39 (by decide) (45 : Int32) (by decide) (by decide) (by decide) K0 ⟨by rw [rstK, if_neg q1, if_neg q2, if_neg q3], rfl⟩
theorem d2_0 : decode method_4_code 0 = .ok (.iload_n 0, 1) := by decide +kernel
theorem d2_1 : decode method_4_code 1 = .ok (.iconst 1, 1) := by decide +kernel
theorem d2_2 : decode method_4_code 2 = .ok (.if_icmp .ne 7, 3) := by decide +kernel
theorem d2_5 : decode method_4_code 5 = .ok (.iconst 1, 1) := by decide +kernel
theorem d2_6 : decode method_4_code 6 = .ok (.newarray .char, 2) := by decide +kernel
theorem d2_8 : decode method_4_code 8 = .ok (.areturn, 1) := by decide +kernel
set_option maxRecDepth 65536 in
set_option maxHeartbeats 40000000 in
theorem m_make1 (l : Launch) (Z : State) (a0 : Array Value) (hw : ∀ d ∈ tables_1, d.before a0 Z = true)  (h0 : Heap) (n0 : Nat) (ho : Old Z n0 h0)  :
    CN l (⟨"com/example/await_in_turn/awaitinturn/LockNameOfPinLaw", "make", "(I)[C"⟩ : MethodName) method_4_code 1 (some (.array .char)) [] ({ frames := 0, cells := 1, slots := 1, locals := 0 } : Room) Z n0 h0 #[(.int (1 : Int32))] [] (fun v h => ∃ (a : Addr) (kA : ClassId), v = some (.ref a) ∧ h0.size ≤ a ∧ Arv Z h a kA .char 1 [.int 0] (.int 0)) := by
  refine CN.walk (plainFor_of_name pn0) ho (L0 := #[.val (.int (1 : Int32))]) (fun m => rfl) ?_
  intro pG e s m below meth cO T hlk hret hnm A0
  have K0 : Keep h0 h0 [] := Keep.refl _ _
  refine f_iloadN A0 d2_0 (pc' := 1) rfl rfl ?_
  refine f_iconst A0 d2_1 (pc' := 2) rfl 1 rfl ?_
  refine f_icN A0 d2_2 (teq (by decide : (1 : Int32) = (1 : Int32))).2 (pc' := 5) rfl ?_
  refine f_iconst A0 d2_5 (pc' := 6) rfl 1 rfl ?_
  refine f_newP A0 1 d2_6 (pc' := 8) rfl (wd hw 10 rfl) (by decide) (by decide) (by decide) (by decide) (by decide) (ad := "[C") (by decide) fun a2 T2 h2 k2 g2 A2 E2 F2 X2 => ?_
  have z2 : n0 ≤ a2 := Nat.le_trans A0.sz (Nat.le_of_eq g2.symm)
  have y2 : h0.size ≤ a2 := Nat.le_trans K0.1 (Nat.le_of_eq g2.symm)
  have Q3 : Keep h0 h2 [] := K0.ext E2
  have V2 : Arv Z h2 a2 k2 .char (1 : Int32) [(.int (0 : Int32))] (.int (0 : Int32)) := F2.pad (pad_rep [] (.int (0 : Int32)) 1)
  exact f_retRN A2 hlk hret d2_8 rfl rfl (by decide) (by decide) Q3 ⟨a2, k2, rfl, y2, V2⟩
theorem d2_9 : decode method_4_code 9 = .ok (.iload_n 0, 1) := by decide +kernel
theorem d2_10 : decode method_4_code 10 = .ok (.iconst 2, 1) := by decide +kernel
theorem d2_11 : decode method_4_code 11 = .ok (.if_icmp .ne 7, 3) := by decide +kernel
theorem d2_14 : decode method_4_code 14 = .ok (.iconst 2, 1) := by decide +kernel
theorem d2_15 : decode method_4_code 15 = .ok (.newarray .char, 2) := by decide +kernel
theorem d2_17 : decode method_4_code 17 = .ok (.areturn, 1) := by decide +kernel
set_option maxRecDepth 65536 in
set_option maxHeartbeats 40000000 in
theorem m_make2 (l : Launch) (Z : State) (a0 : Array Value) (hw : ∀ d ∈ tables_1, d.before a0 Z = true)  (h0 : Heap) (n0 : Nat) (ho : Old Z n0 h0)  :
    CN l (⟨"com/example/await_in_turn/awaitinturn/LockNameOfPinLaw", "make", "(I)[C"⟩ : MethodName) method_4_code 1 (some (.array .char)) [] ({ frames := 0, cells := 1, slots := 2, locals := 0 } : Room) Z n0 h0 #[(.int (2 : Int32))] [] (fun v h => ∃ (a : Addr) (kA : ClassId), v = some (.ref a) ∧ h0.size ≤ a ∧ Arv Z h a kA .char 2 [.int 0, .int 0] (.int 0)) := by
  refine CN.walk (plainFor_of_name pn0) ho (L0 := #[.val (.int (2 : Int32))]) (fun m => rfl) ?_
  intro pG e s m below meth cO T hlk hret hnm A0
  have K0 : Keep h0 h0 [] := Keep.refl _ _
  refine f_iloadN A0 d2_0 (pc' := 1) rfl rfl ?_
  refine f_iconst A0 d2_1 (pc' := 2) rfl 1 rfl ?_
  refine f_icY A0 d2_2 (feq (by decide : ¬ (2 : Int32) = (1 : Int32))).2 (pc' := 9) (by decide) (by decide) ?_
  refine f_iloadN A0 d2_9 (pc' := 10) rfl rfl ?_
  refine f_iconst A0 d2_10 (pc' := 11) rfl 2 rfl ?_
  refine f_icN A0 d2_11 (teq (by decide : (2 : Int32) = (2 : Int32))).2 (pc' := 14) rfl ?_
  refine f_iconst A0 d2_14 (pc' := 15) rfl 2 rfl ?_
  refine f_newP A0 2 d2_15 (pc' := 17) rfl (wd hw 10 rfl) (by decide) (by decide) (by decide) (by decide) (by decide) (ad := "[C") (by decide) fun a4 T4 h4 k4 g4 A4 E4 F4 X4 => ?_
  have z4 : n0 ≤ a4 := Nat.le_trans A0.sz (Nat.le_of_eq g4.symm)
  have y4 : h0.size ≤ a4 := Nat.le_trans K0.1 (Nat.le_of_eq g4.symm)
  have Q5 : Keep h0 h4 [] := K0.ext E4
  have V4 : Arv Z h4 a4 k4 .char (2 : Int32) [(.int (0 : Int32)), (.int (0 : Int32))] (.int (0 : Int32)) := F4.pad (pad_rep [] (.int (0 : Int32)) 2)
  exact f_retRN A4 hlk hret d2_17 rfl rfl (by decide) (by decide) Q5 ⟨a4, k4, rfl, y4, V4⟩
theorem d2_18 : decode method_4_code 18 = .ok (.iload_n 0, 1) := by decide +kernel
theorem d2_19 : decode method_4_code 19 = .ok (.iconst 3, 1) := by decide +kernel
theorem d2_20 : decode method_4_code 20 = .ok (.if_icmp .ne 7, 3) := by decide +kernel
theorem d2_23 : decode method_4_code 23 = .ok (.iconst 3, 1) := by decide +kernel
theorem d2_24 : decode method_4_code 24 = .ok (.newarray .char, 2) := by decide +kernel
theorem d2_26 : decode method_4_code 26 = .ok (.areturn, 1) := by decide +kernel
set_option maxRecDepth 65536 in
set_option maxHeartbeats 40000000 in
theorem m_make3 (l : Launch) (Z : State) (a0 : Array Value) (hw : ∀ d ∈ tables_1, d.before a0 Z = true)  (h0 : Heap) (n0 : Nat) (ho : Old Z n0 h0)  :
    CN l (⟨"com/example/await_in_turn/awaitinturn/LockNameOfPinLaw", "make", "(I)[C"⟩ : MethodName) method_4_code 1 (some (.array .char)) [] ({ frames := 0, cells := 1, slots := 3, locals := 0 } : Room) Z n0 h0 #[(.int (3 : Int32))] [] (fun v h => ∃ (a : Addr) (kA : ClassId), v = some (.ref a) ∧ h0.size ≤ a ∧ Arv Z h a kA .char 3 [.int 0, .int 0, .int 0] (.int 0)) := by
  refine CN.walk (plainFor_of_name pn0) ho (L0 := #[.val (.int (3 : Int32))]) (fun m => rfl) ?_
  intro pG e s m below meth cO T hlk hret hnm A0
  have K0 : Keep h0 h0 [] := Keep.refl _ _
  refine f_iloadN A0 d2_0 (pc' := 1) rfl rfl ?_
  refine f_iconst A0 d2_1 (pc' := 2) rfl 1 rfl ?_
  refine f_icY A0 d2_2 (feq (by decide : ¬ (3 : Int32) = (1 : Int32))).2 (pc' := 9) (by decide) (by decide) ?_
  refine f_iloadN A0 d2_9 (pc' := 10) rfl rfl ?_
  refine f_iconst A0 d2_10 (pc' := 11) rfl 2 rfl ?_
  refine f_icY A0 d2_11 (feq (by decide : ¬ (3 : Int32) = (2 : Int32))).2 (pc' := 18) (by decide) (by decide) ?_
  refine f_iloadN A0 d2_18 (pc' := 19) rfl rfl ?_
  refine f_iconst A0 d2_19 (pc' := 20) rfl 3 rfl ?_
  refine f_icN A0 d2_20 (teq (by decide : (3 : Int32) = (3 : Int32))).2 (pc' := 23) rfl ?_
  refine f_iconst A0 d2_23 (pc' := 24) rfl 3 rfl ?_
  refine f_newP A0 3 d2_24 (pc' := 26) rfl (wd hw 10 rfl) (by decide) (by decide) (by decide) (by decide) (by decide) (ad := "[C") (by decide) fun a6 T6 h6 k6 g6 A6 E6 F6 X6 => ?_
  have z6 : n0 ≤ a6 := Nat.le_trans A0.sz (Nat.le_of_eq g6.symm)
  have y6 : h0.size ≤ a6 := Nat.le_trans K0.1 (Nat.le_of_eq g6.symm)
  have Q7 : Keep h0 h6 [] := K0.ext E6
  have V6 : Arv Z h6 a6 k6 .char (3 : Int32) [(.int (0 : Int32)), (.int (0 : Int32)), (.int (0 : Int32))] (.int (0 : Int32)) := F6.pad (pad_rep [] (.int (0 : Int32)) 3)
  exact f_retRN A6 hlk hret d2_26 rfl rfl (by decide) (by decide) Q7 ⟨a6, k6, rfl, y6, V6⟩
theorem d2_27 : decode method_4_code 27 = .ok (.iconst 4, 1) := by decide +kernel
theorem d2_28 : decode method_4_code 28 = .ok (.newarray .char, 2) := by decide +kernel
theorem d2_30 : decode method_4_code 30 = .ok (.areturn, 1) := by decide +kernel
set_option maxRecDepth 65536 in
set_option maxHeartbeats 40000000 in
theorem m_make4 (l : Launch) (Z : State) (a0 : Array Value) (hw : ∀ d ∈ tables_1, d.before a0 Z = true)  (h0 : Heap) (n0 : Nat) (ho : Old Z n0 h0)  :
    CN l (⟨"com/example/await_in_turn/awaitinturn/LockNameOfPinLaw", "make", "(I)[C"⟩ : MethodName) method_4_code 1 (some (.array .char)) [] ({ frames := 0, cells := 1, slots := 4, locals := 0 } : Room) Z n0 h0 #[(.int (4 : Int32))] [] (fun v h => ∃ (a : Addr) (kA : ClassId), v = some (.ref a) ∧ h0.size ≤ a ∧ Arv Z h a kA .char 4 [.int 0, .int 0, .int 0, .int 0] (.int 0)) := by
  refine CN.walk (plainFor_of_name pn0) ho (L0 := #[.val (.int (4 : Int32))]) (fun m => rfl) ?_
  intro pG e s m below meth cO T hlk hret hnm A0
  have K0 : Keep h0 h0 [] := Keep.refl _ _
  refine f_iloadN A0 d2_0 (pc' := 1) rfl rfl ?_
  refine f_iconst A0 d2_1 (pc' := 2) rfl 1 rfl ?_
  refine f_icY A0 d2_2 (feq (by decide : ¬ (4 : Int32) = (1 : Int32))).2 (pc' := 9) (by decide) (by decide) ?_
  refine f_iloadN A0 d2_9 (pc' := 10) rfl rfl ?_
  refine f_iconst A0 d2_10 (pc' := 11) rfl 2 rfl ?_
  refine f_icY A0 d2_11 (feq (by decide : ¬ (4 : Int32) = (2 : Int32))).2 (pc' := 18) (by decide) (by decide) ?_
  refine f_iloadN A0 d2_18 (pc' := 19) rfl rfl ?_
  refine f_iconst A0 d2_19 (pc' := 20) rfl 3 rfl ?_
  refine f_icY A0 d2_20 (feq (by decide : ¬ (4 : Int32) = (3 : Int32))).2 (pc' := 27) (by decide) (by decide) ?_
  refine f_iconst A0 d2_27 (pc' := 28) rfl 4 rfl ?_
  refine f_newP A0 4 d2_28 (pc' := 30) rfl (wd hw 10 rfl) (by decide) (by decide) (by decide) (by decide) (by decide) (ad := "[C") (by decide) fun a8 T8 h8 k8 g8 A8 E8 F8 X8 => ?_
  have z8 : n0 ≤ a8 := Nat.le_trans A0.sz (Nat.le_of_eq g8.symm)
  have y8 : h0.size ≤ a8 := Nat.le_trans K0.1 (Nat.le_of_eq g8.symm)
  have Q9 : Keep h0 h8 [] := K0.ext E8
  have V8 : Arv Z h8 a8 k8 .char (4 : Int32) [(.int (0 : Int32)), (.int (0 : Int32)), (.int (0 : Int32)), (.int (0 : Int32))] (.int (0 : Int32)) := F8.pad (pad_rep [] (.int (0 : Int32)) 4)
  exact f_retRN A8 hlk hret d2_30 rfl rfl (by decide) (by decide) Q9 ⟨a8, k8, rfl, y8, V8⟩
theorem d1_0 : decode method_5_code 0 = .ok (.iload_n 0, 1) := by decide +kernel
theorem d1_1 : decode method_5_code 1 = .ok (.invokestatic 14, 3) := by decide +kernel
theorem pd1 : parseMethodDescriptor "(I)[C" = some ⟨[.int], some (.array .char)⟩ := by decide +kernel
theorem d1_4 : decode method_5_code 4 = .ok (.astore 5, 2) := by decide +kernel
theorem d1_6 : decode method_5_code 6 = .ok (.aload 5, 2) := by decide +kernel
theorem d1_8 : decode method_5_code 8 = .ok (.iconst 0, 1) := by decide +kernel
theorem d1_9 : decode method_5_code 9 = .ok (.iload_n 1, 1) := by decide +kernel
theorem d1_10 : decode method_5_code 10 = .ok (.invokestatic 8, 3) := by decide +kernel
theorem d1_13 : decode method_5_code 13 = .ok (.castore, 1) := by decide +kernel
theorem d1_14 : decode method_5_code 14 = .ok (.iload_n 0, 1) := by decide +kernel
theorem d1_15 : decode method_5_code 15 = .ok (.iconst 1, 1) := by decide +kernel
theorem d1_16 : decode method_5_code 16 = .ok (.if_icmp .le 11, 3) := by decide +kernel
theorem d1_27 : decode method_5_code 27 = .ok (.iload_n 0, 1) := by decide +kernel
theorem d1_28 : decode method_5_code 28 = .ok (.iconst 2, 1) := by decide +kernel
theorem d1_29 : decode method_5_code 29 = .ok (.if_icmp .le 11, 3) := by decide +kernel
theorem d1_40 : decode method_5_code 40 = .ok (.iload_n 0, 1) := by decide +kernel
theorem d1_41 : decode method_5_code 41 = .ok (.iconst 3, 1) := by decide +kernel
theorem d1_42 : decode method_5_code 42 = .ok (.if_icmp .le 12, 3) := by decide +kernel
theorem d1_54 : decode method_5_code 54 = .ok (.aload 5, 2) := by decide +kernel
theorem d1_56 : decode method_5_code 56 = .ok (.areturn, 1) := by decide +kernel
set_option maxRecDepth 65536 in
set_option maxHeartbeats 40000000 in
theorem m_fill1 (l : Launch) (Z : State) (a0 : Array Value) (hw : ∀ d ∈ tables_1, d.before a0 Z = true) (c0 c1 c2 c3 k0 k1 k2 k3 : Int32) (h0 : Heap) (n0 : Nat) (ho : Old Z n0 h0) (hk0 : (c0 &&& 2147483647) % 62 = k0) (hk1 : (c1 &&& 2147483647) % 65 = k1) (hk2 : (c2 &&& 2147483647) % 65 = k2) (hk3 : (c3 &&& 2147483647) % 65 = k3) (r0 : 0 ≤ k0.toInt ∧ k0.toInt < 62) (r1 : 0 ≤ k1.toInt ∧ k1.toInt < 65) (r2 : 0 ≤ k2.toInt ∧ k2.toInt < 65) (r3 : 0 ≤ k3.toInt ∧ k3.toInt < 65) :
    CN l (⟨"com/example/await_in_turn/awaitinturn/LockNameOfPinLaw", "fill", "(IIIII)[C"⟩ : MethodName) method_5_code 6 (some (.array .char)) [] ({ frames := 2, cells := 1, slots := 1, locals := 40 } : Room) Z n0 h0 #[(.int (1 : Int32)), (.int c0), (.int c1), (.int c2), (.int c3)] [] (fun v h => ∃ (a : Addr) (kA : ClassId), v = some (.ref a) ∧ h0.size ≤ a ∧ Arv Z h a kA .char 1 [.int (fstK k0)] (.int 0)) := by
  refine CN.walk (plainFor_of_name pn0) ho (L0 := #[.val (.int (1 : Int32)), .val (.int c0), .val (.int c1), .val (.int c2), .val (.int c3), .unset]) (fun m => rfl) ?_
  intro pG e s m below meth cO T hlk hret hnm A0
  have K0 : Keep h0 h0 [] := Keep.refl _ _
  refine f_iloadN A0 d1_0 (pc' := 1) rfl rfl ?_
  refine f_callS A0 d1_1 (pc' := 4) rfl (wd hw 7 rfl) (wd hw 8 rfl) (wd hw 5 rfl) (wd hw 9 rfl) (by decide) pd1 [(.int (1 : Int32))] [] rfl rfl rfl 0 (Nat.le_of_eq rfl) (CN.pay (W := 0) A0 (m_make1 l Z a0 hw h0 n0 A0.old) (wd hw 9 rfl) (wd hw 5 rfl) (by decide) (by decide)) (kc := 1) (ks := 1) (by decide) (by decide) all0 (fun q => nomatch q) fun v10 T10 h10 L10 A10 K10 q10 => ?_
  have Q11 : Keep h0 h10 [] := K0.trans K10 all0
  obtain ⟨b10, kA10, rfl, bg10, V10⟩ := q10
  show Wp pG e below _ T10 (mkF m 4 _ [(.ref b10)])
  refine f_astore A10 d1_4 (pc' := 6) rfl rfl (L' := #[.val (.int (1 : Int32)), .val (.int c0), .val (.int c1), .val (.int c2), .val (.int c3), .val (.ref b10)]) rfl ?_
  refine f_aload A10 d1_6 (pc' := 8) rfl rfl rfl ?_
  refine f_iconst A10 d1_8 (pc' := 9) rfl 0 rfl ?_
  refine f_iloadN A10 d1_9 (pc' := 10) rfl rfl ?_
  refine f_callS A10 d1_10 (pc' := 13) rfl (wd hw 11 rfl) (wd hw 12 rfl) (wd hw 5 rfl) (wd hw 13 rfl) (by decide) pd0 [(.int c0)] [(.int (0 : Int32)), (.ref b10)] rfl rfl rfl 2 (Nat.le_of_eq rfl) (CN.pay (W := 2) A10 (m_first l Z a0 hw c0 k0 h10 n0 A10.old hk0 r0) (wd hw 13 rfl) (wd hw 5 rfl) (by decide) (by decide)) (kc := 0) (ks := 0) (by decide) (by decide) all0 (fun q => nomatch q) fun v12 T12 h12 L12 A12 K12 q12 => ?_
  obtain ⟨rfl, hh12⟩ := q12
  obtain rfl := hh12.symm
  show Wp pG e below _ T12 (mkF m 13 _ [(.int (fstK k0)), (.int (0 : Int32)), (.ref b10)])
  refine f_castore A12 d1_13 (pc' := 14) rfl V10 ⟨by decide, by decide⟩ 0 (by decide) (Nat.le_of_ble_eq_true rfl) (fstK k0) (nar_id (by have := fst_rng r0; omega)) (vs' := [(.int (fstK k0))]) rfl (Nat.le_trans A0.sz bg10) (fun q => nomatch q) fun T13 h13 A13 K13 V13 => ?_
  have Q14 : Keep h0 h13 [] := Q11.trans K13 (allS (Or.inr (Nat.le_trans K0.1 bg10)) all0)
  refine f_iloadN A13 d1_14 (pc' := 15) rfl rfl ?_
  refine f_iconst A13 d1_15 (pc' := 16) rfl 1 rfl ?_
  refine f_icY A13 d1_16 (flt (by decide : ¬ (1 : Int32) < (1 : Int32))).2.2.2 (pc' := 27) (by decide) (by decide) ?_
  refine f_iloadN A13 d1_27 (pc' := 28) rfl rfl ?_
  refine f_iconst A13 d1_28 (pc' := 29) rfl 2 rfl ?_
  refine f_icY A13 d1_29 (flt (by decide : ¬ (2 : Int32) < (1 : Int32))).2.2.2 (pc' := 40) (by decide) (by decide) ?_
  refine f_iloadN A13 d1_40 (pc' := 41) rfl rfl ?_
  refine f_iconst A13 d1_41 (pc' := 42) rfl 3 rfl ?_
  refine f_icY A13 d1_42 (flt (by decide : ¬ (3 : Int32) < (1 : Int32))).2.2.2 (pc' := 54) (by decide) (by decide) ?_
  refine f_aload A13 d1_54 (pc' := 56) rfl rfl rfl ?_
  exact f_retRN A13 hlk hret d1_56 rfl rfl (by decide) (by decide) Q14 ⟨b10, kA10, rfl, (Nat.le_trans K0.1 bg10), V13⟩
theorem d1_19 : decode method_5_code 19 = .ok (.aload 5, 2) := by decide +kernel
theorem d1_21 : decode method_5_code 21 = .ok (.iconst 1, 1) := by decide +kernel
theorem d1_22 : decode method_5_code 22 = .ok (.iload_n 2, 1) := by decide +kernel
theorem d1_23 : decode method_5_code 23 = .ok (.invokestatic 18, 3) := by decide +kernel
theorem d1_26 : decode method_5_code 26 = .ok (.castore, 1) := by decide +kernel
set_option maxRecDepth 65536 in
set_option maxHeartbeats 40000000 in
theorem m_fill2 (l : Launch) (Z : State) (a0 : Array Value) (hw : ∀ d ∈ tables_1, d.before a0 Z = true) (c0 c1 c2 c3 k0 k1 k2 k3 : Int32) (h0 : Heap) (n0 : Nat) (ho : Old Z n0 h0) (hk0 : (c0 &&& 2147483647) % 62 = k0) (hk1 : (c1 &&& 2147483647) % 65 = k1) (hk2 : (c2 &&& 2147483647) % 65 = k2) (hk3 : (c3 &&& 2147483647) % 65 = k3) (r0 : 0 ≤ k0.toInt ∧ k0.toInt < 62) (r1 : 0 ≤ k1.toInt ∧ k1.toInt < 65) (r2 : 0 ≤ k2.toInt ∧ k2.toInt < 65) (r3 : 0 ≤ k3.toInt ∧ k3.toInt < 65) :
    CN l (⟨"com/example/await_in_turn/awaitinturn/LockNameOfPinLaw", "fill", "(IIIII)[C"⟩ : MethodName) method_5_code 6 (some (.array .char)) [] ({ frames := 2, cells := 1, slots := 2, locals := 40 } : Room) Z n0 h0 #[(.int (2 : Int32)), (.int c0), (.int c1), (.int c2), (.int c3)] [] (fun v h => ∃ (a : Addr) (kA : ClassId), v = some (.ref a) ∧ h0.size ≤ a ∧ Arv Z h a kA .char 2 [.int (fstK k0), .int (rstK k1)] (.int 0)) := by
  refine CN.walk (plainFor_of_name pn0) ho (L0 := #[.val (.int (2 : Int32)), .val (.int c0), .val (.int c1), .val (.int c2), .val (.int c3), .unset]) (fun m => rfl) ?_
  intro pG e s m below meth cO T hlk hret hnm A0
  have K0 : Keep h0 h0 [] := Keep.refl _ _
  refine f_iloadN A0 d1_0 (pc' := 1) rfl rfl ?_
  refine f_callS A0 d1_1 (pc' := 4) rfl (wd hw 7 rfl) (wd hw 8 rfl) (wd hw 5 rfl) (wd hw 9 rfl) (by decide) pd1 [(.int (2 : Int32))] [] rfl rfl rfl 0 (Nat.le_of_eq rfl) (CN.pay (W := 0) A0 (m_make2 l Z a0 hw h0 n0 A0.old) (wd hw 9 rfl) (wd hw 5 rfl) (by decide) (by decide)) (kc := 1) (ks := 2) (by decide) (by decide) all0 (fun q => nomatch q) fun v15 T15 h15 L15 A15 K15 q15 => ?_
  have Q16 : Keep h0 h15 [] := K0.trans K15 all0
  obtain ⟨b15, kA15, rfl, bg15, V15⟩ := q15
  show Wp pG e below _ T15 (mkF m 4 _ [(.ref b15)])
  refine f_astore A15 d1_4 (pc' := 6) rfl rfl (L' := #[.val (.int (2 : Int32)), .val (.int c0), .val (.int c1), .val (.int c2), .val (.int c3), .val (.ref b15)]) rfl ?_
  refine f_aload A15 d1_6 (pc' := 8) rfl rfl rfl ?_
  refine f_iconst A15 d1_8 (pc' := 9) rfl 0 rfl ?_
  refine f_iloadN A15 d1_9 (pc' := 10) rfl rfl ?_
  refine f_callS A15 d1_10 (pc' := 13) rfl (wd hw 11 rfl) (wd hw 12 rfl) (wd hw 5 rfl) (wd hw 13 rfl) (by decide) pd0 [(.int c0)] [(.int (0 : Int32)), (.ref b15)] rfl rfl rfl 2 (Nat.le_of_eq rfl) (CN.pay (W := 2) A15 (m_first l Z a0 hw c0 k0 h15 n0 A15.old hk0 r0) (wd hw 13 rfl) (wd hw 5 rfl) (by decide) (by decide)) (kc := 0) (ks := 0) (by decide) (by decide) all0 (fun q => nomatch q) fun v17 T17 h17 L17 A17 K17 q17 => ?_
  obtain ⟨rfl, hh17⟩ := q17
  obtain rfl := hh17.symm
  show Wp pG e below _ T17 (mkF m 13 _ [(.int (fstK k0)), (.int (0 : Int32)), (.ref b15)])
  refine f_castore A17 d1_13 (pc' := 14) rfl V15 ⟨by decide, by decide⟩ 0 (by decide) (Nat.le_of_ble_eq_true rfl) (fstK k0) (nar_id (by have := fst_rng r0; omega)) (vs' := [(.int (fstK k0)), (.int (0 : Int32))]) rfl (Nat.le_trans A0.sz bg15) (fun q => nomatch q) fun T18 h18 A18 K18 V18 => ?_
  have Q19 : Keep h0 h18 [] := Q16.trans K18 (allS (Or.inr (Nat.le_trans K0.1 bg15)) all0)
  refine f_iloadN A18 d1_14 (pc' := 15) rfl rfl ?_
  refine f_iconst A18 d1_15 (pc' := 16) rfl 1 rfl ?_
  refine f_icN A18 d1_16 (tlt (by decide : (1 : Int32) < (2 : Int32))).2.2.2 (pc' := 19) rfl ?_
  refine f_aload A18 d1_19 (pc' := 21) rfl rfl rfl ?_
  refine f_iconst A18 d1_21 (pc' := 22) rfl 1 rfl ?_
  refine f_iloadN A18 d1_22 (pc' := 23) rfl rfl ?_
  refine f_callS A18 d1_23 (pc' := 26) rfl (wd hw 114 rfl) (wd hw 115 rfl) (wd hw 5 rfl) (wd hw 116 rfl) (by decide) pd0 [(.int c1)] [(.int (1 : Int32)), (.ref b15)] rfl rfl rfl 2 (Nat.le_of_eq rfl) (CN.pay (W := 2) A18 (m_rest l Z a0 hw c1 k1 h18 n0 A18.old hk1 r1) (wd hw 116 rfl) (wd hw 5 rfl) (by decide) (by decide)) (kc := 0) (ks := 0) (by decide) (by decide) all0 (fun q => nomatch q) fun v20 T20 h20 L20 A20 K20 q20 => ?_
  obtain ⟨rfl, hh20⟩ := q20
  obtain rfl := hh20.symm
  show Wp pG e below _ T20 (mkF m 26 _ [(.int (rstK k1)), (.int (1 : Int32)), (.ref b15)])
  refine f_castore A20 d1_26 (pc' := 27) rfl V18 ⟨by decide, by decide⟩ 1 (by decide) (Nat.le_of_ble_eq_true rfl) (rstK k1) (nar_id (by have := rst_rng r1; omega)) (vs' := [(.int (fstK k0)), (.int (rstK k1))]) rfl (Nat.le_trans A0.sz bg15) (fun q => nomatch q) fun T21 h21 A21 K21 V21 => ?_
  have Q22 : Keep h0 h21 [] := Q19.trans K21 (allS (Or.inr (Nat.le_trans K0.1 bg15)) all0)
  refine f_iloadN A21 d1_27 (pc' := 28) rfl rfl ?_
  refine f_iconst A21 d1_28 (pc' := 29) rfl 2 rfl ?_
  refine f_icY A21 d1_29 (flt (by decide : ¬ (2 : Int32) < (2 : Int32))).2.2.2 (pc' := 40) (by decide) (by decide) ?_
  refine f_iloadN A21 d1_40 (pc' := 41) rfl rfl ?_
  refine f_iconst A21 d1_41 (pc' := 42) rfl 3 rfl ?_
  refine f_icY A21 d1_42 (flt (by decide : ¬ (3 : Int32) < (2 : Int32))).2.2.2 (pc' := 54) (by decide) (by decide) ?_
  refine f_aload A21 d1_54 (pc' := 56) rfl rfl rfl ?_
  exact f_retRN A21 hlk hret d1_56 rfl rfl (by decide) (by decide) Q22 ⟨b15, kA15, rfl, (Nat.le_trans K0.1 bg15), V21⟩
theorem d1_32 : decode method_5_code 32 = .ok (.aload 5, 2) := by decide +kernel
theorem d1_34 : decode method_5_code 34 = .ok (.iconst 2, 1) := by decide +kernel
theorem d1_35 : decode method_5_code 35 = .ok (.iload_n 3, 1) := by decide +kernel
theorem d1_36 : decode method_5_code 36 = .ok (.invokestatic 18, 3) := by decide +kernel
theorem d1_39 : decode method_5_code 39 = .ok (.castore, 1) := by decide +kernel
set_option maxRecDepth 65536 in
set_option maxHeartbeats 40000000 in
theorem m_fill3 (l : Launch) (Z : State) (a0 : Array Value) (hw : ∀ d ∈ tables_1, d.before a0 Z = true) (c0 c1 c2 c3 k0 k1 k2 k3 : Int32) (h0 : Heap) (n0 : Nat) (ho : Old Z n0 h0) (hk0 : (c0 &&& 2147483647) % 62 = k0) (hk1 : (c1 &&& 2147483647) % 65 = k1) (hk2 : (c2 &&& 2147483647) % 65 = k2) (hk3 : (c3 &&& 2147483647) % 65 = k3) (r0 : 0 ≤ k0.toInt ∧ k0.toInt < 62) (r1 : 0 ≤ k1.toInt ∧ k1.toInt < 65) (r2 : 0 ≤ k2.toInt ∧ k2.toInt < 65) (r3 : 0 ≤ k3.toInt ∧ k3.toInt < 65) :
    CN l (⟨"com/example/await_in_turn/awaitinturn/LockNameOfPinLaw", "fill", "(IIIII)[C"⟩ : MethodName) method_5_code 6 (some (.array .char)) [] ({ frames := 2, cells := 1, slots := 3, locals := 40 } : Room) Z n0 h0 #[(.int (3 : Int32)), (.int c0), (.int c1), (.int c2), (.int c3)] [] (fun v h => ∃ (a : Addr) (kA : ClassId), v = some (.ref a) ∧ h0.size ≤ a ∧ Arv Z h a kA .char 3 [.int (fstK k0), .int (rstK k1), .int (rstK k2)] (.int 0)) := by
  refine CN.walk (plainFor_of_name pn0) ho (L0 := #[.val (.int (3 : Int32)), .val (.int c0), .val (.int c1), .val (.int c2), .val (.int c3), .unset]) (fun m => rfl) ?_
  intro pG e s m below meth cO T hlk hret hnm A0
  have K0 : Keep h0 h0 [] := Keep.refl _ _
  refine f_iloadN A0 d1_0 (pc' := 1) rfl rfl ?_
  refine f_callS A0 d1_1 (pc' := 4) rfl (wd hw 7 rfl) (wd hw 8 rfl) (wd hw 5 rfl) (wd hw 9 rfl) (by decide) pd1 [(.int (3 : Int32))] [] rfl rfl rfl 0 (Nat.le_of_eq rfl) (CN.pay (W := 0) A0 (m_make3 l Z a0 hw h0 n0 A0.old) (wd hw 9 rfl) (wd hw 5 rfl) (by decide) (by decide)) (kc := 1) (ks := 3) (by decide) (by decide) all0 (fun q => nomatch q) fun v23 T23 h23 L23 A23 K23 q23 => ?_
  have Q24 : Keep h0 h23 [] := K0.trans K23 all0
  obtain ⟨b23, kA23, rfl, bg23, V23⟩ := q23
  show Wp pG e below _ T23 (mkF m 4 _ [(.ref b23)])
  refine f_astore A23 d1_4 (pc' := 6) rfl rfl (L' := #[.val (.int (3 : Int32)), .val (.int c0), .val (.int c1), .val (.int c2), .val (.int c3), .val (.ref b23)]) rfl ?_
  refine f_aload A23 d1_6 (pc' := 8) rfl rfl rfl ?_
  refine f_iconst A23 d1_8 (pc' := 9) rfl 0 rfl ?_
  refine f_iloadN A23 d1_9 (pc' := 10) rfl rfl ?_
  refine f_callS A23 d1_10 (pc' := 13) rfl (wd hw 11 rfl) (wd hw 12 rfl) (wd hw 5 rfl) (wd hw 13 rfl) (by decide) pd0 [(.int c0)] [(.int (0 : Int32)), (.ref b23)] rfl rfl rfl 2 (Nat.le_of_eq rfl) (CN.pay (W := 2) A23 (m_first l Z a0 hw c0 k0 h23 n0 A23.old hk0 r0) (wd hw 13 rfl) (wd hw 5 rfl) (by decide) (by decide)) (kc := 0) (ks := 0) (by decide) (by decide) all0 (fun q => nomatch q) fun v25 T25 h25 L25 A25 K25 q25 => ?_
  obtain ⟨rfl, hh25⟩ := q25
  obtain rfl := hh25.symm
  show Wp pG e below _ T25 (mkF m 13 _ [(.int (fstK k0)), (.int (0 : Int32)), (.ref b23)])
  refine f_castore A25 d1_13 (pc' := 14) rfl V23 ⟨by decide, by decide⟩ 0 (by decide) (Nat.le_of_ble_eq_true rfl) (fstK k0) (nar_id (by have := fst_rng r0; omega)) (vs' := [(.int (fstK k0)), (.int (0 : Int32)), (.int (0 : Int32))]) rfl (Nat.le_trans A0.sz bg23) (fun q => nomatch q) fun T26 h26 A26 K26 V26 => ?_
  have Q27 : Keep h0 h26 [] := Q24.trans K26 (allS (Or.inr (Nat.le_trans K0.1 bg23)) all0)
  refine f_iloadN A26 d1_14 (pc' := 15) rfl rfl ?_
  refine f_iconst A26 d1_15 (pc' := 16) rfl 1 rfl ?_
  refine f_icN A26 d1_16 (tlt (by decide : (1 : Int32) < (3 : Int32))).2.2.2 (pc' := 19) rfl ?_
  refine f_aload A26 d1_19 (pc' := 21) rfl rfl rfl ?_
  refine f_iconst A26 d1_21 (pc' := 22) rfl 1 rfl ?_
  refine f_iloadN A26 d1_22 (pc' := 23) rfl rfl ?_
  refine f_callS A26 d1_23 (pc' := 26) rfl (wd hw 114 rfl) (wd hw 115 rfl) (wd hw 5 rfl) (wd hw 116 rfl) (by decide) pd0 [(.int c1)] [(.int (1 : Int32)), (.ref b23)] rfl rfl rfl 2 (Nat.le_of_eq rfl) (CN.pay (W := 2) A26 (m_rest l Z a0 hw c1 k1 h26 n0 A26.old hk1 r1) (wd hw 116 rfl) (wd hw 5 rfl) (by decide) (by decide)) (kc := 0) (ks := 0) (by decide) (by decide) all0 (fun q => nomatch q) fun v28 T28 h28 L28 A28 K28 q28 => ?_
  obtain ⟨rfl, hh28⟩ := q28
  obtain rfl := hh28.symm
  show Wp pG e below _ T28 (mkF m 26 _ [(.int (rstK k1)), (.int (1 : Int32)), (.ref b23)])
  refine f_castore A28 d1_26 (pc' := 27) rfl V26 ⟨by decide, by decide⟩ 1 (by decide) (Nat.le_of_ble_eq_true rfl) (rstK k1) (nar_id (by have := rst_rng r1; omega)) (vs' := [(.int (fstK k0)), (.int (rstK k1)), (.int (0 : Int32))]) rfl (Nat.le_trans A0.sz bg23) (fun q => nomatch q) fun T29 h29 A29 K29 V29 => ?_
  have Q30 : Keep h0 h29 [] := Q27.trans K29 (allS (Or.inr (Nat.le_trans K0.1 bg23)) all0)
  refine f_iloadN A29 d1_27 (pc' := 28) rfl rfl ?_
  refine f_iconst A29 d1_28 (pc' := 29) rfl 2 rfl ?_
  refine f_icN A29 d1_29 (tlt (by decide : (2 : Int32) < (3 : Int32))).2.2.2 (pc' := 32) rfl ?_
  refine f_aload A29 d1_32 (pc' := 34) rfl rfl rfl ?_
  refine f_iconst A29 d1_34 (pc' := 35) rfl 2 rfl ?_
  refine f_iloadN A29 d1_35 (pc' := 36) rfl rfl ?_
  refine f_callS A29 d1_36 (pc' := 39) rfl (wd hw 114 rfl) (wd hw 115 rfl) (wd hw 5 rfl) (wd hw 116 rfl) (by decide) pd0 [(.int c2)] [(.int (2 : Int32)), (.ref b23)] rfl rfl rfl 2 (Nat.le_of_eq rfl) (CN.pay (W := 2) A29 (m_rest l Z a0 hw c2 k2 h29 n0 A29.old hk2 r2) (wd hw 116 rfl) (wd hw 5 rfl) (by decide) (by decide)) (kc := 0) (ks := 0) (by decide) (by decide) all0 (fun q => nomatch q) fun v31 T31 h31 L31 A31 K31 q31 => ?_
  obtain ⟨rfl, hh31⟩ := q31
  obtain rfl := hh31.symm
  show Wp pG e below _ T31 (mkF m 39 _ [(.int (rstK k2)), (.int (2 : Int32)), (.ref b23)])
  refine f_castore A31 d1_39 (pc' := 40) rfl V29 ⟨by decide, by decide⟩ 2 (by decide) (Nat.le_of_ble_eq_true rfl) (rstK k2) (nar_id (by have := rst_rng r2; omega)) (vs' := [(.int (fstK k0)), (.int (rstK k1)), (.int (rstK k2))]) rfl (Nat.le_trans A0.sz bg23) (fun q => nomatch q) fun T32 h32 A32 K32 V32 => ?_
  have Q33 : Keep h0 h32 [] := Q30.trans K32 (allS (Or.inr (Nat.le_trans K0.1 bg23)) all0)
  refine f_iloadN A32 d1_40 (pc' := 41) rfl rfl ?_
  refine f_iconst A32 d1_41 (pc' := 42) rfl 3 rfl ?_
  refine f_icY A32 d1_42 (flt (by decide : ¬ (3 : Int32) < (3 : Int32))).2.2.2 (pc' := 54) (by decide) (by decide) ?_
  refine f_aload A32 d1_54 (pc' := 56) rfl rfl rfl ?_
  exact f_retRN A32 hlk hret d1_56 rfl rfl (by decide) (by decide) Q33 ⟨b23, kA23, rfl, (Nat.le_trans K0.1 bg23), V32⟩
theorem d1_45 : decode method_5_code 45 = .ok (.aload 5, 2) := by decide +kernel
theorem d1_47 : decode method_5_code 47 = .ok (.iconst 3, 1) := by decide +kernel
theorem d1_48 : decode method_5_code 48 = .ok (.iload 4, 2) := by decide +kernel
theorem d1_50 : decode method_5_code 50 = .ok (.invokestatic 18, 3) := by decide +kernel
theorem d1_53 : decode method_5_code 53 = .ok (.castore, 1) := by decide +kernel
set_option maxRecDepth 65536 in
set_option maxHeartbeats 40000000 in
theorem m_fill4 (l : Launch) (Z : State) (a0 : Array Value) (hw : ∀ d ∈ tables_1, d.before a0 Z = true) (c0 c1 c2 c3 k0 k1 k2 k3 : Int32) (h0 : Heap) (n0 : Nat) (ho : Old Z n0 h0) (hk0 : (c0 &&& 2147483647) % 62 = k0) (hk1 : (c1 &&& 2147483647) % 65 = k1) (hk2 : (c2 &&& 2147483647) % 65 = k2) (hk3 : (c3 &&& 2147483647) % 65 = k3) (r0 : 0 ≤ k0.toInt ∧ k0.toInt < 62) (r1 : 0 ≤ k1.toInt ∧ k1.toInt < 65) (r2 : 0 ≤ k2.toInt ∧ k2.toInt < 65) (r3 : 0 ≤ k3.toInt ∧ k3.toInt < 65) :
    CN l (⟨"com/example/await_in_turn/awaitinturn/LockNameOfPinLaw", "fill", "(IIIII)[C"⟩ : MethodName) method_5_code 6 (some (.array .char)) [] ({ frames := 2, cells := 1, slots := 4, locals := 40 } : Room) Z n0 h0 #[(.int (4 : Int32)), (.int c0), (.int c1), (.int c2), (.int c3)] [] (fun v h => ∃ (a : Addr) (kA : ClassId), v = some (.ref a) ∧ h0.size ≤ a ∧ Arv Z h a kA .char 4 [.int (fstK k0), .int (rstK k1), .int (rstK k2), .int (rstK k3)] (.int 0)) := by
  refine CN.walk (plainFor_of_name pn0) ho (L0 := #[.val (.int (4 : Int32)), .val (.int c0), .val (.int c1), .val (.int c2), .val (.int c3), .unset]) (fun m => rfl) ?_
  intro pG e s m below meth cO T hlk hret hnm A0
  have K0 : Keep h0 h0 [] := Keep.refl _ _
  refine f_iloadN A0 d1_0 (pc' := 1) rfl rfl ?_
  refine f_callS A0 d1_1 (pc' := 4) rfl (wd hw 7 rfl) (wd hw 8 rfl) (wd hw 5 rfl) (wd hw 9 rfl) (by decide) pd1 [(.int (4 : Int32))] [] rfl rfl rfl 0 (Nat.le_of_eq rfl) (CN.pay (W := 0) A0 (m_make4 l Z a0 hw h0 n0 A0.old) (wd hw 9 rfl) (wd hw 5 rfl) (by decide) (by decide)) (kc := 1) (ks := 4) (by decide) (by decide) all0 (fun q => nomatch q) fun v34 T34 h34 L34 A34 K34 q34 => ?_
  have Q35 : Keep h0 h34 [] := K0.trans K34 all0
  obtain ⟨b34, kA34, rfl, bg34, V34⟩ := q34
  show Wp pG e below _ T34 (mkF m 4 _ [(.ref b34)])
  refine f_astore A34 d1_4 (pc' := 6) rfl rfl (L' := #[.val (.int (4 : Int32)), .val (.int c0), .val (.int c1), .val (.int c2), .val (.int c3), .val (.ref b34)]) rfl ?_
  refine f_aload A34 d1_6 (pc' := 8) rfl rfl rfl ?_
  refine f_iconst A34 d1_8 (pc' := 9) rfl 0 rfl ?_
  refine f_iloadN A34 d1_9 (pc' := 10) rfl rfl ?_
  refine f_callS A34 d1_10 (pc' := 13) rfl (wd hw 11 rfl) (wd hw 12 rfl) (wd hw 5 rfl) (wd hw 13 rfl) (by decide) pd0 [(.int c0)] [(.int (0 : Int32)), (.ref b34)] rfl rfl rfl 2 (Nat.le_of_eq rfl) (CN.pay (W := 2) A34 (m_first l Z a0 hw c0 k0 h34 n0 A34.old hk0 r0) (wd hw 13 rfl) (wd hw 5 rfl) (by decide) (by decide)) (kc := 0) (ks := 0) (by decide) (by decide) all0 (fun q => nomatch q) fun v36 T36 h36 L36 A36 K36 q36 => ?_
  obtain ⟨rfl, hh36⟩ := q36
  obtain rfl := hh36.symm
  show Wp pG e below _ T36 (mkF m 13 _ [(.int (fstK k0)), (.int (0 : Int32)), (.ref b34)])
  refine f_castore A36 d1_13 (pc' := 14) rfl V34 ⟨by decide, by decide⟩ 0 (by decide) (Nat.le_of_ble_eq_true rfl) (fstK k0) (nar_id (by have := fst_rng r0; omega)) (vs' := [(.int (fstK k0)), (.int (0 : Int32)), (.int (0 : Int32)), (.int (0 : Int32))]) rfl (Nat.le_trans A0.sz bg34) (fun q => nomatch q) fun T37 h37 A37 K37 V37 => ?_
  have Q38 : Keep h0 h37 [] := Q35.trans K37 (allS (Or.inr (Nat.le_trans K0.1 bg34)) all0)
  refine f_iloadN A37 d1_14 (pc' := 15) rfl rfl ?_
  refine f_iconst A37 d1_15 (pc' := 16) rfl 1 rfl ?_
  refine f_icN A37 d1_16 (tlt (by decide : (1 : Int32) < (4 : Int32))).2.2.2 (pc' := 19) rfl ?_
  refine f_aload A37 d1_19 (pc' := 21) rfl rfl rfl ?_
  refine f_iconst A37 d1_21 (pc' := 22) rfl 1 rfl ?_
  refine f_iloadN A37 d1_22 (pc' := 23) rfl rfl ?_
  refine f_callS A37 d1_23 (pc' := 26) rfl (wd hw 114 rfl) (wd hw 115 rfl) (wd hw 5 rfl) (wd hw 116 rfl) (by decide) pd0 [(.int c1)] [(.int (1 : Int32)), (.ref b34)] rfl rfl rfl 2 (Nat.le_of_eq rfl) (CN.pay (W := 2) A37 (m_rest l Z a0 hw c1 k1 h37 n0 A37.old hk1 r1) (wd hw 116 rfl) (wd hw 5 rfl) (by decide) (by decide)) (kc := 0) (ks := 0) (by decide) (by decide) all0 (fun q => nomatch q) fun v39 T39 h39 L39 A39 K39 q39 => ?_
  obtain ⟨rfl, hh39⟩ := q39
  obtain rfl := hh39.symm
  show Wp pG e below _ T39 (mkF m 26 _ [(.int (rstK k1)), (.int (1 : Int32)), (.ref b34)])
  refine f_castore A39 d1_26 (pc' := 27) rfl V37 ⟨by decide, by decide⟩ 1 (by decide) (Nat.le_of_ble_eq_true rfl) (rstK k1) (nar_id (by have := rst_rng r1; omega)) (vs' := [(.int (fstK k0)), (.int (rstK k1)), (.int (0 : Int32)), (.int (0 : Int32))]) rfl (Nat.le_trans A0.sz bg34) (fun q => nomatch q) fun T40 h40 A40 K40 V40 => ?_
  have Q41 : Keep h0 h40 [] := Q38.trans K40 (allS (Or.inr (Nat.le_trans K0.1 bg34)) all0)
  refine f_iloadN A40 d1_27 (pc' := 28) rfl rfl ?_
  refine f_iconst A40 d1_28 (pc' := 29) rfl 2 rfl ?_
  refine f_icN A40 d1_29 (tlt (by decide : (2 : Int32) < (4 : Int32))).2.2.2 (pc' := 32) rfl ?_
  refine f_aload A40 d1_32 (pc' := 34) rfl rfl rfl ?_
  refine f_iconst A40 d1_34 (pc' := 35) rfl 2 rfl ?_
  refine f_iloadN A40 d1_35 (pc' := 36) rfl rfl ?_
  refine f_callS A40 d1_36 (pc' := 39) rfl (wd hw 114 rfl) (wd hw 115 rfl) (wd hw 5 rfl) (wd hw 116 rfl) (by decide) pd0 [(.int c2)] [(.int (2 : Int32)), (.ref b34)] rfl rfl rfl 2 (Nat.le_of_eq rfl) (CN.pay (W := 2) A40 (m_rest l Z a0 hw c2 k2 h40 n0 A40.old hk2 r2) (wd hw 116 rfl) (wd hw 5 rfl) (by decide) (by decide)) (kc := 0) (ks := 0) (by decide) (by decide) all0 (fun q => nomatch q) fun v42 T42 h42 L42 A42 K42 q42 => ?_
  obtain ⟨rfl, hh42⟩ := q42
  obtain rfl := hh42.symm
  show Wp pG e below _ T42 (mkF m 39 _ [(.int (rstK k2)), (.int (2 : Int32)), (.ref b34)])
  refine f_castore A42 d1_39 (pc' := 40) rfl V40 ⟨by decide, by decide⟩ 2 (by decide) (Nat.le_of_ble_eq_true rfl) (rstK k2) (nar_id (by have := rst_rng r2; omega)) (vs' := [(.int (fstK k0)), (.int (rstK k1)), (.int (rstK k2)), (.int (0 : Int32))]) rfl (Nat.le_trans A0.sz bg34) (fun q => nomatch q) fun T43 h43 A43 K43 V43 => ?_
  have Q44 : Keep h0 h43 [] := Q41.trans K43 (allS (Or.inr (Nat.le_trans K0.1 bg34)) all0)
  refine f_iloadN A43 d1_40 (pc' := 41) rfl rfl ?_
  refine f_iconst A43 d1_41 (pc' := 42) rfl 3 rfl ?_
  refine f_icN A43 d1_42 (tlt (by decide : (3 : Int32) < (4 : Int32))).2.2.2 (pc' := 45) rfl ?_
  refine f_aload A43 d1_45 (pc' := 47) rfl rfl rfl ?_
  refine f_iconst A43 d1_47 (pc' := 48) rfl 3 rfl ?_
  refine f_iload A43 d1_48 (pc' := 50) rfl rfl ?_
  refine f_callS A43 d1_50 (pc' := 53) rfl (wd hw 114 rfl) (wd hw 115 rfl) (wd hw 5 rfl) (wd hw 116 rfl) (by decide) pd0 [(.int c3)] [(.int (3 : Int32)), (.ref b34)] rfl rfl rfl 2 (Nat.le_of_eq rfl) (CN.pay (W := 2) A43 (m_rest l Z a0 hw c3 k3 h43 n0 A43.old hk3 r3) (wd hw 116 rfl) (wd hw 5 rfl) (by decide) (by decide)) (kc := 0) (ks := 0) (by decide) (by decide) all0 (fun q => nomatch q) fun v45 T45 h45 L45 A45 K45 q45 => ?_
  obtain ⟨rfl, hh45⟩ := q45
  obtain rfl := hh45.symm
  show Wp pG e below _ T45 (mkF m 53 _ [(.int (rstK k3)), (.int (3 : Int32)), (.ref b34)])
  refine f_castore A45 d1_53 (pc' := 54) rfl V43 ⟨by decide, by decide⟩ 3 (by decide) (Nat.le_of_ble_eq_true rfl) (rstK k3) (nar_id (by have := rst_rng r3; omega)) (vs' := [(.int (fstK k0)), (.int (rstK k1)), (.int (rstK k2)), (.int (rstK k3))]) rfl (Nat.le_trans A0.sz bg34) (fun q => nomatch q) fun T46 h46 A46 K46 V46 => ?_
  have Q47 : Keep h0 h46 [] := Q44.trans K46 (allS (Or.inr (Nat.le_trans K0.1 bg34)) all0)
  refine f_aload A46 d1_54 (pc' := 56) rfl rfl rfl ?_
  exact f_retRN A46 hlk hret d1_56 rfl rfl (by decide) (by decide) Q47 ⟨b34, kA34, rfl, (Nat.le_trans K0.1 bg34), V46⟩
theorem pn1 : plainName "com/example/await_in_turn/awaitinturn/LockName" = true := by first | (simp [plainName, overriddenIn]; done) | decide +kernel
theorem d17_0 : decode prog_4_method_3_code 0 = .ok (.iload_n 0, 1) := by decide +kernel
theorem d17_1 : decode prog_4_method_3_code 1 = .ok (.bipush 65, 2) := by decide +kernel
theorem d17_3 : decode prog_4_method_3_code 3 = .ok (.if_icmp .lt 9, 3) := by decide +kernel
theorem d17_12 : decode prog_4_method_3_code 12 = .ok (.iload_n 0, 1) := by decide +kernel
theorem d17_13 : decode prog_4_method_3_code 13 = .ok (.bipush 97, 2) := by decide +kernel
theorem d17_15 : decode prog_4_method_3_code 15 = .ok (.if_icmp .lt 9, 3) := by decide +kernel
theorem d17_24 : decode prog_4_method_3_code 24 = .ok (.iload_n 0, 1) := by decide +kernel
theorem d17_25 : decode prog_4_method_3_code 25 = .ok (.bipush 48, 2) := by decide +kernel
theorem d17_27 : decode prog_4_method_3_code 27 = .ok (.if_icmp .lt 13, 3) := by decide +kernel
theorem d17_40 : decode prog_4_method_3_code 40 = .ok (.iconst 0, 1) := by decide +kernel
theorem d17_41 : decode prog_4_method_3_code 41 = .ok (.ireturn, 1) := by decide +kernel
theorem d17_30 : decode prog_4_method_3_code 30 = .ok (.iload_n 0, 1) := by decide +kernel
theorem d17_31 : decode prog_4_method_3_code 31 = .ok (.bipush 57, 2) := by decide +kernel
theorem d17_33 : decode prog_4_method_3_code 33 = .ok (.if_icmp .gt 7, 3) := by decide +kernel
theorem d17_36 : decode prog_4_method_3_code 36 = .ok (.iconst 1, 1) := by decide +kernel
theorem d17_37 : decode prog_4_method_3_code 37 = .ok (.goto 4, 3) := by decide +kernel
theorem d17_18 : decode prog_4_method_3_code 18 = .ok (.iload_n 0, 1) := by decide +kernel
theorem d17_19 : decode prog_4_method_3_code 19 = .ok (.bipush 122, 2) := by decide +kernel
theorem d17_21 : decode prog_4_method_3_code 21 = .ok (.if_icmp .le 15, 3) := by decide +kernel
theorem d17_6 : decode prog_4_method_3_code 6 = .ok (.iload_n 0, 1) := by decide +kernel
theorem d17_7 : decode prog_4_method_3_code 7 = .ok (.bipush 90, 2) := by decide +kernel
theorem d17_9 : decode prog_4_method_3_code 9 = .ok (.if_icmp .le 27, 3) := by decide +kernel
set_option maxRecDepth 65536 in
set_option maxHeartbeats 40000000 in
theorem m_lod (l : Launch) (Z : State) (a0 : Array Value) (hw : ∀ d ∈ tables_1, d.before a0 Z = true) (c0 : Int32) (h0 : Heap) (n0 : Nat) (ho : Old Z n0 h0)  :
    CN l (⟨"com/example/await_in_turn/awaitinturn/LockName", "isLetterOrDigit", "(C)Z"⟩ : MethodName) prog_4_method_3_code 1 (some .boolean) [] ({ frames := 0, cells := 0, slots := 0, locals := 0 } : Room) Z n0 h0 #[(.int c0)] [] (fun v h => v = some (.int (if Lod c0 then 1 else 0)) ∧ h = h0) := by
  refine CN.walk (plainFor_of_name pn1) ho (L0 := #[.val (.int c0)]) (fun m => rfl) ?_
  intro pG e s m below meth cO T hlk hret hnm A0
  have K0 : Keep h0 h0 [] := Keep.refl _ _
  refine f_iloadN A0 d17_0 (pc' := 1) rfl rfl ?_
  refine f_bipush A0 d17_1 (pc' := 3) rfl 65 rfl ?_
  by_cases q1 : c0 < (65 : Int32)
  · refine f_icY A0 d17_3 (tlt q1).1 (pc' := 12) (by decide) (by decide) ?_
    refine f_iloadN A0 d17_12 (pc' := 13) rfl rfl ?_
    refine f_bipush A0 d17_13 (pc' := 15) rfl 97 rfl ?_
    by_cases q3 : c0 < (97 : Int32)
    · refine f_icY A0 d17_15 (tlt q3).1 (pc' := 24) (by decide) (by decide) ?_
      refine f_iloadN A0 d17_24 (pc' := 25) rfl rfl ?_
      refine f_bipush A0 d17_25 (pc' := 27) rfl 48 rfl ?_
      by_cases q5 : c0 < (48 : Int32)
      · refine f_icY A0 d17_27 (tlt q5).1 (pc' := 40) (by decide) (by decide) ?_
        refine f_iconst A0 d17_40 (pc' := 41) rfl 0 rfl ?_
        exact f_retBN A0 hlk hret d17_41 (by decide) (0 : Int32) (by decide) (by decide) (by decide) K0 ⟨by rw [if_neg (show ¬ Lod c0 by simp [Lod, *])], rfl⟩
      · refine f_icN A0 d17_27 (flt q5).1 (pc' := 30) rfl ?_
        refine f_iloadN A0 d17_30 (pc' := 31) rfl rfl ?_
        refine f_bipush A0 d17_31 (pc' := 33) rfl 57 rfl ?_
        by_cases q6 : (57 : Int32) < c0
        · refine f_icY A0 d17_33 (tlt q6).2.2.1 (pc' := 40) (by decide) (by decide) ?_
          refine f_iconst A0 d17_40 (pc' := 41) rfl 0 rfl ?_
          exact f_retBN A0 hlk hret d17_41 (by decide) (0 : Int32) (by decide) (by decide) (by decide) K0 ⟨by rw [if_neg (show ¬ Lod c0 by simp [Lod, *])], rfl⟩
        · refine f_icN A0 d17_33 (flt q6).2.2.1 (pc' := 36) rfl ?_
          refine f_iconst A0 d17_36 (pc' := 37) rfl 1 rfl ?_
          refine f_goto A0 d17_37 (pc' := 41) (by decide) (by decide) ?_
          exact f_retBN A0 hlk hret d17_41 (by decide) (1 : Int32) (by decide) (by decide) (by decide) K0 ⟨by rw [if_pos (show Lod c0 from Or.inr (Or.inr ⟨q5, q6⟩))], rfl⟩
    · refine f_icN A0 d17_15 (flt q3).1 (pc' := 18) rfl ?_
      refine f_iloadN A0 d17_18 (pc' := 19) rfl rfl ?_
      refine f_bipush A0 d17_19 (pc' := 21) rfl 122 rfl ?_
      by_cases q4 : (122 : Int32) < c0
      · refine f_icN A0 d17_21 (tlt q4).2.2.2 (pc' := 24) rfl ?_
        refine f_iloadN A0 d17_24 (pc' := 25) rfl rfl ?_
        refine f_bipush A0 d17_25 (pc' := 27) rfl 48 rfl ?_
        by_cases q5 : c0 < (48 : Int32)
        · refine f_icY A0 d17_27 (tlt q5).1 (pc' := 40) (by decide) (by decide) ?_
          refine f_iconst A0 d17_40 (pc' := 41) rfl 0 rfl ?_
          exact f_retBN A0 hlk hret d17_41 (by decide) (0 : Int32) (by decide) (by decide) (by decide) K0 ⟨by rw [if_neg (show ¬ Lod c0 by simp [Lod, *])], rfl⟩
        · refine f_icN A0 d17_27 (flt q5).1 (pc' := 30) rfl ?_
          refine f_iloadN A0 d17_30 (pc' := 31) rfl rfl ?_
          refine f_bipush A0 d17_31 (pc' := 33) rfl 57 rfl ?_
          by_cases q6 : (57 : Int32) < c0
          · refine f_icY A0 d17_33 (tlt q6).2.2.1 (pc' := 40) (by decide) (by decide) ?_
            refine f_iconst A0 d17_40 (pc' := 41) rfl 0 rfl ?_
            exact f_retBN A0 hlk hret d17_41 (by decide) (0 : Int32) (by decide) (by decide) (by decide) K0 ⟨by rw [if_neg (show ¬ Lod c0 by simp [Lod, *])], rfl⟩
          · refine f_icN A0 d17_33 (flt q6).2.2.1 (pc' := 36) rfl ?_
            refine f_iconst A0 d17_36 (pc' := 37) rfl 1 rfl ?_
            refine f_goto A0 d17_37 (pc' := 41) (by decide) (by decide) ?_
            exact f_retBN A0 hlk hret d17_41 (by decide) (1 : Int32) (by decide) (by decide) (by decide) K0 ⟨by rw [if_pos (show Lod c0 from Or.inr (Or.inr ⟨q5, q6⟩))], rfl⟩
      · refine f_icY A0 d17_21 (flt q4).2.2.2 (pc' := 36) (by decide) (by decide) ?_
        refine f_iconst A0 d17_36 (pc' := 37) rfl 1 rfl ?_
        refine f_goto A0 d17_37 (pc' := 41) (by decide) (by decide) ?_
        exact f_retBN A0 hlk hret d17_41 (by decide) (1 : Int32) (by decide) (by decide) (by decide) K0 ⟨by rw [if_pos (show Lod c0 from Or.inr (Or.inl ⟨q3, q4⟩))], rfl⟩
  · refine f_icN A0 d17_3 (flt q1).1 (pc' := 6) rfl ?_
    refine f_iloadN A0 d17_6 (pc' := 7) rfl rfl ?_
    refine f_bipush A0 d17_7 (pc' := 9) rfl 90 rfl ?_
    by_cases q2 : (90 : Int32) < c0
    · refine f_icN A0 d17_9 (tlt q2).2.2.2 (pc' := 12) rfl ?_
      refine f_iloadN A0 d17_12 (pc' := 13) rfl rfl ?_
      refine f_bipush A0 d17_13 (pc' := 15) rfl 97 rfl ?_
      by_cases q3 : c0 < (97 : Int32)
      · refine f_icY A0 d17_15 (tlt q3).1 (pc' := 24) (by decide) (by decide) ?_
        refine f_iloadN A0 d17_24 (pc' := 25) rfl rfl ?_
        refine f_bipush A0 d17_25 (pc' := 27) rfl 48 rfl ?_
        by_cases q5 : c0 < (48 : Int32)
        · refine f_icY A0 d17_27 (tlt q5).1 (pc' := 40) (by decide) (by decide) ?_
          refine f_iconst A0 d17_40 (pc' := 41) rfl 0 rfl ?_
          exact f_retBN A0 hlk hret d17_41 (by decide) (0 : Int32) (by decide) (by decide) (by decide) K0 ⟨by rw [if_neg (show ¬ Lod c0 by simp [Lod, *])], rfl⟩
        · refine f_icN A0 d17_27 (flt q5).1 (pc' := 30) rfl ?_
          refine f_iloadN A0 d17_30 (pc' := 31) rfl rfl ?_
          refine f_bipush A0 d17_31 (pc' := 33) rfl 57 rfl ?_
          by_cases q6 : (57 : Int32) < c0
          · refine f_icY A0 d17_33 (tlt q6).2.2.1 (pc' := 40) (by decide) (by decide) ?_
            refine f_iconst A0 d17_40 (pc' := 41) rfl 0 rfl ?_
            exact f_retBN A0 hlk hret d17_41 (by decide) (0 : Int32) (by decide) (by decide) (by decide) K0 ⟨by rw [if_neg (show ¬ Lod c0 by simp [Lod, *])], rfl⟩
          · refine f_icN A0 d17_33 (flt q6).2.2.1 (pc' := 36) rfl ?_
            refine f_iconst A0 d17_36 (pc' := 37) rfl 1 rfl ?_
            refine f_goto A0 d17_37 (pc' := 41) (by decide) (by decide) ?_
            exact f_retBN A0 hlk hret d17_41 (by decide) (1 : Int32) (by decide) (by decide) (by decide) K0 ⟨by rw [if_pos (show Lod c0 from Or.inr (Or.inr ⟨q5, q6⟩))], rfl⟩
      · refine f_icN A0 d17_15 (flt q3).1 (pc' := 18) rfl ?_
        refine f_iloadN A0 d17_18 (pc' := 19) rfl rfl ?_
        refine f_bipush A0 d17_19 (pc' := 21) rfl 122 rfl ?_
        by_cases q4 : (122 : Int32) < c0
        · refine f_icN A0 d17_21 (tlt q4).2.2.2 (pc' := 24) rfl ?_
          refine f_iloadN A0 d17_24 (pc' := 25) rfl rfl ?_
          refine f_bipush A0 d17_25 (pc' := 27) rfl 48 rfl ?_
          by_cases q5 : c0 < (48 : Int32)
          · refine f_icY A0 d17_27 (tlt q5).1 (pc' := 40) (by decide) (by decide) ?_
            refine f_iconst A0 d17_40 (pc' := 41) rfl 0 rfl ?_
            exact f_retBN A0 hlk hret d17_41 (by decide) (0 : Int32) (by decide) (by decide) (by decide) K0 ⟨by rw [if_neg (show ¬ Lod c0 by simp [Lod, *])], rfl⟩
          · refine f_icN A0 d17_27 (flt q5).1 (pc' := 30) rfl ?_
            refine f_iloadN A0 d17_30 (pc' := 31) rfl rfl ?_
            refine f_bipush A0 d17_31 (pc' := 33) rfl 57 rfl ?_
            by_cases q6 : (57 : Int32) < c0
            · refine f_icY A0 d17_33 (tlt q6).2.2.1 (pc' := 40) (by decide) (by decide) ?_
              refine f_iconst A0 d17_40 (pc' := 41) rfl 0 rfl ?_
              exact f_retBN A0 hlk hret d17_41 (by decide) (0 : Int32) (by decide) (by decide) (by decide) K0 ⟨by rw [if_neg (show ¬ Lod c0 by simp [Lod, *])], rfl⟩
            · refine f_icN A0 d17_33 (flt q6).2.2.1 (pc' := 36) rfl ?_
              refine f_iconst A0 d17_36 (pc' := 37) rfl 1 rfl ?_
              refine f_goto A0 d17_37 (pc' := 41) (by decide) (by decide) ?_
              exact f_retBN A0 hlk hret d17_41 (by decide) (1 : Int32) (by decide) (by decide) (by decide) K0 ⟨by rw [if_pos (show Lod c0 from Or.inr (Or.inr ⟨q5, q6⟩))], rfl⟩
        · refine f_icY A0 d17_21 (flt q4).2.2.2 (pc' := 36) (by decide) (by decide) ?_
          refine f_iconst A0 d17_36 (pc' := 37) rfl 1 rfl ?_
          refine f_goto A0 d17_37 (pc' := 41) (by decide) (by decide) ?_
          exact f_retBN A0 hlk hret d17_41 (by decide) (1 : Int32) (by decide) (by decide) (by decide) K0 ⟨by rw [if_pos (show Lod c0 from Or.inr (Or.inl ⟨q3, q4⟩))], rfl⟩
    · refine f_icY A0 d17_9 (flt q2).2.2.2 (pc' := 36) (by decide) (by decide) ?_
      refine f_iconst A0 d17_36 (pc' := 37) rfl 1 rfl ?_
      refine f_goto A0 d17_37 (pc' := 41) (by decide) (by decide) ?_
      exact f_retBN A0 hlk hret d17_41 (by decide) (1 : Int32) (by decide) (by decide) (by decide) K0 ⟨by rw [if_pos (show Lod c0 from Or.inl ⟨q1, q2⟩)], rfl⟩
theorem d20_0 : decode prog_4_method_1_code 0 = .ok (.aload_n 0, 1) := by decide +kernel
theorem d20_1 : decode prog_4_method_1_code 1 = .ok (.invokespecial 1, 3) := by decide +kernel
theorem d20_4 : decode prog_4_method_1_code 4 = .ok (.aload_n 0, 1) := by decide +kernel
theorem d20_5 : decode prog_4_method_1_code 5 = .ok (.aload_n 1, 1) := by decide +kernel
theorem d20_6 : decode prog_4_method_1_code 6 = .ok (.putfield 7, 3) := by decide +kernel
theorem d20_9 : decode prog_4_method_1_code 9 = .ok (.return_, 1) := by decide +kernel
set_option maxRecDepth 65536 in
set_option maxHeartbeats 40000000 in
theorem m_init (l : Launch) (Z : State) (a0 : Array Value) (hw : ∀ d ∈ tables_1, d.before a0 Z = true) (a x : Addr) (h0 : Heap) (n0 : Nat) (ho : Old Z n0 h0) (E : Exa Z h0 a "com/example/await_in_turn/awaitinturn/LockName") (F : Fld Z h0 a "com/example/await_in_turn/awaitinturn/LockName" "name" "Ljava/lang/String;" .null) (ga : n0 ≤ a) :
    CN l (⟨"com/example/await_in_turn/awaitinturn/LockName", "<init>", "(Ljava/lang/String;)V"⟩ : MethodName) prog_4_method_1_code 2 none [] ({ frames := 1, cells := 0, slots := 0, locals := 12 } : Room) Z n0 h0 #[(.ref a), (.ref x)] [a] (fun v h => v = none ∧ Exa Z h a "com/example/await_in_turn/awaitinturn/LockName" ∧ Fld Z h a "com/example/await_in_turn/awaitinturn/LockName" "name" "Ljava/lang/String;" (.ref x)) := by
  refine CN.walk (plainFor_of_name pn1) ho (L0 := #[.val (.ref a), .val (.ref x)]) (fun m => rfl) ?_
  intro pG e s m below meth cO T hlk hret hnm A0
  have K0 : Keep h0 h0 [a] := Keep.refl _ _
  refine f_aloadN A0 d20_0 (pc' := 1) rfl rfl rfl ?_
  refine f_initO A0 (W := 0) d20_1 (pc' := 4) rfl (wd hw 90 rfl) (wd hw 23 rfl) (wd hw 24 rfl) rfl (by decide) (Nat.le_of_eq rfl) (by decide) fun T48 A48 => ?_
  refine f_aloadN A48 d20_4 (pc' := 5) rfl rfl rfl ?_
  refine f_aloadN A48 d20_5 (pc' := 6) rfl rfl rfl ?_
  refine f_putF A48 (.ref x) d20_6 (pc' := 9) rfl (wd hw 91 rfl) Via.refl F E (Or.inr ⟨(wd hw 92 rfl), rfl, hnm⟩) (wd hw 86 rfl) (ty := (.object "java/lang/String")) (by decide) rfl rfl ga (fun q => nomatch q) fun T49 h49 A49 W49 K49 X49 F49 => ?_
  have Q50 : Keep h0 h49 [a] := K0.trans K49 (allS (Or.inl (List.mem_of_getElem? (i := 0) rfl)) all0)
  exact f_retN A49 hlk hret d20_9 (by decide) (by decide) Q50 ⟨rfl, X49, F49⟩
theorem d10_77 : decode prog_4_method_2_code 77 = .ok (.ifCond .ne 38, 3) := by decide +kernel
theorem d10_80 : decode prog_4_method_2_code 80 = .ok (.iload_n 2, 1) := by decide +kernel
theorem d10_81 : decode prog_4_method_2_code 81 = .ok (.bipush 46, 2) := by decide +kernel
theorem d10_83 : decode prog_4_method_2_code 83 = .ok (.if_icmp .eq 32, 3) := by decide +kernel
theorem d10_86 : decode prog_4_method_2_code 86 = .ok (.iload_n 2, 1) := by decide +kernel
theorem d10_87 : decode prog_4_method_2_code 87 = .ok (.bipush 95, 2) := by decide +kernel
theorem d10_89 : decode prog_4_method_2_code 89 = .ok (.if_icmp .eq 26, 3) := by decide +kernel
theorem d10_92 : decode prog_4_method_2_code 92 = .ok (.iload_n 2, 1) := by decide +kernel
theorem d10_93 : decode prog_4_method_2_code 93 = .ok (.bipush 45, 2) := by decide +kernel
theorem d10_95 : decode prog_4_method_2_code 95 = .ok (.if_icmp .eq 20, 3) := by decide +kernel
theorem okStep {pG : Program} {l : Launch} {e : Env} {R : Room} {s : State} {m : MethodId} {args : Array Value} {below : List Frame} {meth : Method} {c : Code} {Z : State} {EL : List (String × Nat)} {n0 : Nat} {own : String} {ml : Nat} {bw : Bool} {vm : Vm} {T : State} {h : Heap} {locs : List Loc} {cells slots : Nat} {P : Outcome → State → Prop} {x : Addr} {i d : Int32} (A : WS pG l e R s m args below meth c Z EL n0 own prog_4_method_2_code ml bw vm T h locs cells slots) (o : OkC d) (k : Wp pG e below P T (mkF m 115 #[.val (.ref x), .val (.int i), .val (.int d)] [])) : Wp pG e below P T (mkF m 77 #[.val (.ref x), .val (.int i), .val (.int d)] [(.int (if Lod d then 1 else 0))]) := by
  rcases o with q | q | q | q
  · rw [if_pos q]
    refine f_ifY A d10_77 ((if0 _ _).trans (feq (by decide : ¬ (1 : Int32) = (0 : Int32))).2) (pc' := 115) (by decide) (by decide) ?_
    exact k
  · subst q
    rw [if_neg (by decide : ¬ Lod 46)]
    refine f_ifN A d10_77 ((if0 _ _).trans (teq (by decide : (0 : Int32) = (0 : Int32))).2) (pc' := 80) rfl ?_
    refine f_iloadN A d10_80 (pc' := 81) rfl rfl ?_
    refine f_bipush A d10_81 (pc' := 83) rfl 46 rfl ?_
    refine f_icY A d10_83 (teq (by decide : (46 : Int32) = (46 : Int32))).1 (pc' := 115) (by decide) (by decide) ?_
    exact k
  · subst q
    rw [if_neg (by decide : ¬ Lod 95)]
    refine f_ifN A d10_77 ((if0 _ _).trans (teq (by decide : (0 : Int32) = (0 : Int32))).2) (pc' := 80) rfl ?_
    refine f_iloadN A d10_80 (pc' := 81) rfl rfl ?_
    refine f_bipush A d10_81 (pc' := 83) rfl 46 rfl ?_
    refine f_icN A d10_83 (feq (by decide : ¬ (95 : Int32) = (46 : Int32))).1 (pc' := 86) rfl ?_
    refine f_iloadN A d10_86 (pc' := 87) rfl rfl ?_
    refine f_bipush A d10_87 (pc' := 89) rfl 95 rfl ?_
    refine f_icY A d10_89 (teq (by decide : (95 : Int32) = (95 : Int32))).1 (pc' := 115) (by decide) (by decide) ?_
    exact k
  · subst q
    rw [if_neg (by decide : ¬ Lod 45)]
    refine f_ifN A d10_77 ((if0 _ _).trans (teq (by decide : (0 : Int32) = (0 : Int32))).2) (pc' := 80) rfl ?_
    refine f_iloadN A d10_80 (pc' := 81) rfl rfl ?_
    refine f_bipush A d10_81 (pc' := 83) rfl 46 rfl ?_
    refine f_icN A d10_83 (feq (by decide : ¬ (45 : Int32) = (46 : Int32))).1 (pc' := 86) rfl ?_
    refine f_iloadN A d10_86 (pc' := 87) rfl rfl ?_
    refine f_bipush A d10_87 (pc' := 89) rfl 95 rfl ?_
    refine f_icN A d10_89 (feq (by decide : ¬ (45 : Int32) = (95 : Int32))).1 (pc' := 92) rfl ?_
    refine f_iloadN A d10_92 (pc' := 93) rfl rfl ?_
    refine f_bipush A d10_93 (pc' := 95) rfl 45 rfl ?_
    refine f_icY A d10_95 (teq (by decide : (45 : Int32) = (45 : Int32))).1 (pc' := 115) (by decide) (by decide) ?_
    exact k
theorem d10_0 : decode prog_4_method_2_code 0 = .ok (.aload_n 0, 1) := by decide +kernel
theorem d10_1 : decode prog_4_method_2_code 1 = .ok (.ifnonnull 13, 3) := by decide +kernel
theorem d10_14 : decode prog_4_method_2_code 14 = .ok (.aload_n 0, 1) := by decide +kernel
theorem d10_15 : decode prog_4_method_2_code 15 = .ok (.invokevirtual 20, 3) := by decide +kernel
theorem pd2 : parseMethodDescriptor "()Z" = some ⟨[], some .boolean⟩ := by decide +kernel
theorem d10_18 : decode prog_4_method_2_code 18 = .ok (.ifCond .eq 10, 3) := by decide +kernel
theorem d10_28 : decode prog_4_method_2_code 28 = .ok (.aload_n 0, 1) := by decide +kernel
theorem d10_29 : decode prog_4_method_2_code 29 = .ok (.iconst 0, 1) := by decide +kernel
theorem d10_30 : decode prog_4_method_2_code 30 = .ok (.invokevirtual 32, 3) := by decide +kernel
theorem d10_33 : decode prog_4_method_2_code 33 = .ok (.invokestatic 36, 3) := by decide +kernel
theorem pd3 : parseMethodDescriptor "(C)Z" = some ⟨[.char], some .boolean⟩ := by decide +kernel
theorem d10_36 : decode prog_4_method_2_code 36 = .ok (.ifCond .ne 21, 3) := by decide +kernel
theorem d10_57 : decode prog_4_method_2_code 57 = .ok (.iconst 1, 1) := by decide +kernel
theorem d10_58 : decode prog_4_method_2_code 58 = .ok (.istore_n 1, 1) := by decide +kernel
theorem d10_59 : decode prog_4_method_2_code 59 = .ok (.iload_n 1, 1) := by decide +kernel
theorem d10_60 : decode prog_4_method_2_code 60 = .ok (.aload_n 0, 1) := by decide +kernel
theorem d10_61 : decode prog_4_method_2_code 61 = .ok (.invokevirtual 48, 3) := by decide +kernel
theorem pd4 : parseMethodDescriptor "()I" = some ⟨[], some .int⟩ := by decide +kernel
theorem d10_64 : decode prog_4_method_2_code 64 = .ok (.if_icmp .ge 57, 3) := by decide +kernel
theorem d10_121 : decode prog_4_method_2_code 121 = .ok (.aload_n 0, 1) := by decide +kernel
theorem d10_122 : decode prog_4_method_2_code 122 = .ok (.invokevirtual 48, 3) := by decide +kernel
theorem d10_125 : decode prog_4_method_2_code 125 = .ok (.sipush 128, 3) := by decide +kernel
theorem d10_128 : decode prog_4_method_2_code 128 = .ok (.if_icmp .le 17, 3) := by decide +kernel
theorem d10_145 : decode prog_4_method_2_code 145 = .ok (.new 8, 3) := by decide +kernel
theorem d10_148 : decode prog_4_method_2_code 148 = .ok (.dup, 1) := by decide +kernel
theorem d10_149 : decode prog_4_method_2_code 149 = .ok (.aload_n 0, 1) := by decide +kernel
theorem d10_150 : decode prog_4_method_2_code 150 = .ok (.invokespecial 58, 3) := by decide +kernel
theorem pd5 : parseMethodDescriptor "(Ljava/lang/String;)V" = some ⟨[(.object "java/lang/String")], none⟩ := by decide +kernel
theorem d10_153 : decode prog_4_method_2_code 153 = .ok (.areturn, 1) := by decide +kernel
set_option maxRecDepth 65536 in
set_option maxHeartbeats 40000000 in
theorem m_of1 (l : Launch) (Z : State) (a0 : Array Value) (hw : ∀ d ∈ tables_1, d.before a0 Z = true) (x t : Addr) (d0 : Int32) (zc : Int32) (O2 : Sta Z Z.heap "java/lang/String" "COMPACT_STRINGS" "Z" (.int zc)) (P5 : ¬ zc = 0) (fm : Value) (O4 : Sta Z Z.heap "jdk/internal/util/Preconditions" "SIOOBE_FORMATTER" "Ljava/util/function/BiFunction;" fm) (rG3 : fm.isRef = true) (h0 : Heap) (n0 : Nat) (ho : Old Z n0 h0) (F : Str Z h0 x t [d0]) (lat : ∀ c ∈ [d0], ¬ c < 0 ∧ ¬ (255 : Int32) < c) (o0 : Lod d0)  :
    CN l (⟨"com/example/await_in_turn/awaitinturn/LockName", "of", "(Ljava/lang/String;)Lcom/example/await_in_turn/awaitinturn/LockName;"⟩ : MethodName) prog_4_method_2_code 3 (some (.object "com/example/await_in_turn/awaitinturn/LockName")) [] ({ frames := 5, cells := 1, slots := 1, locals := 90 } : Room) Z n0 h0 #[(.ref x)] [] (fun v h => ∃ a : Addr, v = some (.ref a) ∧ h0.size ≤ a ∧ Exa Z h a "com/example/await_in_turn/awaitinturn/LockName" ∧ Fld Z h a "com/example/await_in_turn/awaitinturn/LockName" "name" "Ljava/lang/String;" (.ref x)) := by
  refine CN.walk (plainFor_of_name pn1) ho (L0 := #[.val (.ref x), .unset, .unset]) (fun m => rfl) ?_
  intro pG e s m below meth cO T hlk hret hnm A0
  have K0 : Keep h0 h0 [] := Keep.refl _ _
  refine f_aloadN A0 d10_0 (pc' := 1) rfl rfl rfl ?_
  refine f_nonY A0 d10_1 (pc' := 14) (by decide) (by decide) ?_
  refine f_aloadN A0 d10_14 (pc' := 15) rfl rfl rfl ?_
  refine f_callV A0 (a := x) d10_15 (pc' := 18) rfl (wd hw 45 rfl) (wd hw 46 rfl) (nfS A0 (wd hw 48 rfl)) (wd hw 48 rfl) (wd hw 47 rfl) (by decide) F.exa pd2 [] [] rfl rfl rfl 0 (Nat.le_of_eq rfl) (payEmp (W := 0) A0 hw (wd hw 1 rfl) F (by decide) (by decide)) (kc := 0) (ks := 0) (by decide) (by decide) all0 (fun q => nomatch q) fun v51 T51 h51 L51 A51 K51 q51 => ?_
  obtain ⟨rfl, hh51⟩ := q51
  obtain rfl := hh51.symm
  show Wp pG e below _ T51 (mkF m 18 _ [(.int (0 : Int32))])
  refine f_ifY A51 d10_18 ((if0 _ _).trans (teq (by decide : (0 : Int32) = (0 : Int32))).1) (pc' := 28) (by decide) (by decide) ?_
  refine f_aloadN A51 d10_28 (pc' := 29) rfl rfl rfl ?_
  refine f_iconst A51 d10_29 (pc' := 30) rfl 0 rfl ?_
  refine f_callV A51 (a := x) d10_30 (pc' := 33) rfl (wd hw 50 rfl) (wd hw 51 rfl) (nfS A51 (wd hw 53 rfl)) (wd hw 53 rfl) (wd hw 52 rfl) (by decide) F.exa pd0 [(.int (0 : Int32))] [] rfl rfl rfl 0 (Nat.le_of_eq rfl) (payCh (W := 0) A51 hw (wd hw 1 rfl) F (fun c hc => (lat c hc).2) O2 P5 O4 rG3 0 (Nat.le_of_ble_eq_true rfl) rfl (by decide) (by decide)) (kc := 0) (ks := 0) (by decide) (by decide) all0 (fun q => nomatch q) fun v52 T52 h52 L52 A52 K52 q52 => ?_
  obtain ⟨rfl, hh52⟩ := q52
  obtain rfl := hh52.symm
  show Wp pG e below _ T52 (mkF m 33 _ [(.int d0)])
  refine f_callS A52 d10_33 (pc' := 36) rfl (wd hw 72 rfl) (wd hw 73 rfl) (wd hw 43 rfl) (wd hw 74 rfl) (by decide) pd3 [(.int d0)] [] rfl rfl rfl 0 (Nat.le_of_eq rfl) (CN.pay (W := 0) A52 (m_lod l Z a0 hw d0 h0 n0 A52.old) (wd hw 74 rfl) (wd hw 43 rfl) (by decide) (by decide)) (kc := 0) (ks := 0) (by decide) (by decide) all0 (fun q => nomatch q) fun v53 T53 h53 L53 A53 K53 q53 => ?_
  obtain ⟨rfl, hh53⟩ := q53
  obtain rfl := hh53.symm
  show Wp pG e below _ T53 (mkF m 36 _ [(.int (if Lod d0 then 1 else 0))])
  rw [if_pos o0]
  refine f_ifY A53 d10_36 ((if0 _ _).trans (feq (by decide : ¬ (1 : Int32) = (0 : Int32))).2) (pc' := 57) (by decide) (by decide) ?_
  refine f_iconst A53 d10_57 (pc' := 58) rfl 1 rfl ?_
  refine f_istoreN A53 d10_58 (pc' := 59) rfl (L' := #[.val (.ref x), .val (.int (1 : Int32)), .unset]) rfl ?_
  refine f_iloadN A53 d10_59 (pc' := 60) rfl rfl ?_
  refine f_aloadN A53 d10_60 (pc' := 61) rfl rfl rfl ?_
  refine f_callV A53 (a := x) d10_61 (pc' := 64) rfl (wd hw 75 rfl) (wd hw 76 rfl) (nfS A53 (wd hw 78 rfl)) (wd hw 78 rfl) (wd hw 77 rfl) (by decide) F.exa pd4 [] [(.int (1 : Int32))] rfl rfl rfl 1 (Nat.le_of_eq rfl) (payLen (W := 1) A53 hw (wd hw 1 rfl) F O2 P5 (by decide) (by decide)) (kc := 0) (ks := 0) (by decide) (by decide) all0 (fun q => nomatch q) fun v54 T54 h54 L54 A54 K54 q54 => ?_
  obtain ⟨rfl, hh54⟩ := q54
  obtain rfl := hh54.symm
  show Wp pG e below _ T54 (mkF m 64 _ [(.int (1 : Int32)), (.int (1 : Int32))])
  refine f_icY A54 d10_64 (flt (by decide : ¬ (1 : Int32) < (1 : Int32))).2.1 (pc' := 121) (by decide) (by decide) ?_
  refine f_aloadN A54 d10_121 (pc' := 122) rfl rfl rfl ?_
  refine f_callV A54 (a := x) d10_122 (pc' := 125) rfl (wd hw 75 rfl) (wd hw 76 rfl) (nfS A54 (wd hw 78 rfl)) (wd hw 78 rfl) (wd hw 77 rfl) (by decide) F.exa pd4 [] [] rfl rfl rfl 0 (Nat.le_of_eq rfl) (payLen (W := 0) A54 hw (wd hw 1 rfl) F O2 P5 (by decide) (by decide)) (kc := 0) (ks := 0) (by decide) (by decide) all0 (fun q => nomatch q) fun v55 T55 h55 L55 A55 K55 q55 => ?_
  obtain ⟨rfl, hh55⟩ := q55
  obtain rfl := hh55.symm
  show Wp pG e below _ T55 (mkF m 125 _ [(.int (1 : Int32))])
  refine f_sipush A55 d10_125 (pc' := 128) rfl 128 rfl ?_
  refine f_icY A55 d10_128 (flt (by decide : ¬ (128 : Int32) < (1 : Int32))).2.2.2 (pc' := 145) (by decide) (by decide) ?_
  refine f_new A55 d10_145 (pc' := 148) rfl (wd hw 85 rfl) (wd hw 86 rfl) (wd hw 43 rfl) (by decide) (by decide) fun a56 T56 h56 g56 A56 E56 X56 D56 => ?_
  have z56 : n0 ≤ a56 := Nat.le_trans A55.sz (Nat.le_of_eq g56.symm)
  have y56 : h0.size ≤ a56 := Nat.le_trans K0.1 (Nat.le_of_eq g56.symm)
  have Q57 : Keep h0 h56 [] := K0.ext E56
  refine f_dup A56 d10_148 (pc' := 149) rfl rfl ?_
  refine f_aloadN A56 d10_149 (pc' := 150) rfl rfl rfl ?_
  refine f_callI A56 (a := a56) d10_150 (pc' := 153) rfl rfl (wd hw 87 rfl) (wd hw 88 rfl) (wd hw 89 rfl) (by decide) pd5 [(.ref x)] [(.ref a56)] rfl rfl rfl 1 (Nat.le_of_eq rfl) (CN.pay (W := 1) A56 (m_init l Z a0 hw a56 x h56 n0 A56.old X56 (show Fld Z h56 a56 "com/example/await_in_turn/awaitinturn/LockName" "name" "Ljava/lang/String;" .null from D56 (Or.inr (wd hw 92 rfl)) (ty := (.object "java/lang/String")) (by decide)) z56) (wd hw 89 rfl) (wd hw 43 rfl) (by decide) (by decide)) (kc := 0) (ks := 0) (by decide) (by decide) (allS z56 all0) (fun q => nomatch q) fun v58 T58 h58 L58 A58 K58 q58 => ?_
  have Q59 : Keep h0 h58 [] := Q57.trans K58 (allS (Or.inr y56) all0)
  obtain ⟨rfl, X58, F58⟩ := q58
  show Wp pG e below _ T58 (mkF m 153 _ [(.ref a56)])
  exact f_retRN A58 hlk hret d10_153 rfl rfl (by decide) (by decide) Q59 ⟨a56, rfl, y56, X58, F58⟩
theorem d10_67 : decode prog_4_method_2_code 67 = .ok (.aload_n 0, 1) := by decide +kernel
theorem d10_68 : decode prog_4_method_2_code 68 = .ok (.iload_n 1, 1) := by decide +kernel
theorem d10_69 : decode prog_4_method_2_code 69 = .ok (.invokevirtual 32, 3) := by decide +kernel
theorem d10_72 : decode prog_4_method_2_code 72 = .ok (.istore_n 2, 1) := by decide +kernel
theorem d10_73 : decode prog_4_method_2_code 73 = .ok (.iload_n 2, 1) := by decide +kernel
theorem d10_74 : decode prog_4_method_2_code 74 = .ok (.invokestatic 36, 3) := by decide +kernel
theorem d10_115 : decode prog_4_method_2_code 115 = .ok (.iinc 1 1, 3) := by decide +kernel
theorem d10_118 : decode prog_4_method_2_code 118 = .ok (.goto (-59), 3) := by decide +kernel
set_option maxRecDepth 65536 in
set_option maxHeartbeats 40000000 in
theorem m_of2 (l : Launch) (Z : State) (a0 : Array Value) (hw : ∀ d ∈ tables_1, d.before a0 Z = true) (x t : Addr) (d0 d1 : Int32) (zc : Int32) (O2 : Sta Z Z.heap "java/lang/String" "COMPACT_STRINGS" "Z" (.int zc)) (P5 : ¬ zc = 0) (fm : Value) (O4 : Sta Z Z.heap "jdk/internal/util/Preconditions" "SIOOBE_FORMATTER" "Ljava/util/function/BiFunction;" fm) (rG3 : fm.isRef = true) (h0 : Heap) (n0 : Nat) (ho : Old Z n0 h0) (F : Str Z h0 x t [d0, d1]) (lat : ∀ c ∈ [d0, d1], ¬ c < 0 ∧ ¬ (255 : Int32) < c) (o0 : Lod d0) (o1 : OkC d1) :
    CN l (⟨"com/example/await_in_turn/awaitinturn/LockName", "of", "(Ljava/lang/String;)Lcom/example/await_in_turn/awaitinturn/LockName;"⟩ : MethodName) prog_4_method_2_code 3 (some (.object "com/example/await_in_turn/awaitinturn/LockName")) [] ({ frames := 5, cells := 1, slots := 1, locals := 90 } : Room) Z n0 h0 #[(.ref x)] [] (fun v h => ∃ a : Addr, v = some (.ref a) ∧ h0.size ≤ a ∧ Exa Z h a "com/example/await_in_turn/awaitinturn/LockName" ∧ Fld Z h a "com/example/await_in_turn/awaitinturn/LockName" "name" "Ljava/lang/String;" (.ref x)) := by
  refine CN.walk (plainFor_of_name pn1) ho (L0 := #[.val (.ref x), .unset, .unset]) (fun m => rfl) ?_
  intro pG e s m below meth cO T hlk hret hnm A0
  have K0 : Keep h0 h0 [] := Keep.refl _ _
  refine f_aloadN A0 d10_0 (pc' := 1) rfl rfl rfl ?_
  refine f_nonY A0 d10_1 (pc' := 14) (by decide) (by decide) ?_
  refine f_aloadN A0 d10_14 (pc' := 15) rfl rfl rfl ?_
  refine f_callV A0 (a := x) d10_15 (pc' := 18) rfl (wd hw 45 rfl) (wd hw 46 rfl) (nfS A0 (wd hw 48 rfl)) (wd hw 48 rfl) (wd hw 47 rfl) (by decide) F.exa pd2 [] [] rfl rfl rfl 0 (Nat.le_of_eq rfl) (payEmp (W := 0) A0 hw (wd hw 1 rfl) F (by decide) (by decide)) (kc := 0) (ks := 0) (by decide) (by decide) all0 (fun q => nomatch q) fun v60 T60 h60 L60 A60 K60 q60 => ?_
  obtain ⟨rfl, hh60⟩ := q60
  obtain rfl := hh60.symm
  show Wp pG e below _ T60 (mkF m 18 _ [(.int (0 : Int32))])
  refine f_ifY A60 d10_18 ((if0 _ _).trans (teq (by decide : (0 : Int32) = (0 : Int32))).1) (pc' := 28) (by decide) (by decide) ?_
  refine f_aloadN A60 d10_28 (pc' := 29) rfl rfl rfl ?_
  refine f_iconst A60 d10_29 (pc' := 30) rfl 0 rfl ?_
  refine f_callV A60 (a := x) d10_30 (pc' := 33) rfl (wd hw 50 rfl) (wd hw 51 rfl) (nfS A60 (wd hw 53 rfl)) (wd hw 53 rfl) (wd hw 52 rfl) (by decide) F.exa pd0 [(.int (0 : Int32))] [] rfl rfl rfl 0 (Nat.le_of_eq rfl) (payCh (W := 0) A60 hw (wd hw 1 rfl) F (fun c hc => (lat c hc).2) O2 P5 O4 rG3 0 (Nat.le_of_ble_eq_true rfl) rfl (by decide) (by decide)) (kc := 0) (ks := 0) (by decide) (by decide) all0 (fun q => nomatch q) fun v61 T61 h61 L61 A61 K61 q61 => ?_
  obtain ⟨rfl, hh61⟩ := q61
  obtain rfl := hh61.symm
  show Wp pG e below _ T61 (mkF m 33 _ [(.int d0)])
  refine f_callS A61 d10_33 (pc' := 36) rfl (wd hw 72 rfl) (wd hw 73 rfl) (wd hw 43 rfl) (wd hw 74 rfl) (by decide) pd3 [(.int d0)] [] rfl rfl rfl 0 (Nat.le_of_eq rfl) (CN.pay (W := 0) A61 (m_lod l Z a0 hw d0 h0 n0 A61.old) (wd hw 74 rfl) (wd hw 43 rfl) (by decide) (by decide)) (kc := 0) (ks := 0) (by decide) (by decide) all0 (fun q => nomatch q) fun v62 T62 h62 L62 A62 K62 q62 => ?_
  obtain ⟨rfl, hh62⟩ := q62
  obtain rfl := hh62.symm
  show Wp pG e below _ T62 (mkF m 36 _ [(.int (if Lod d0 then 1 else 0))])
  rw [if_pos o0]
  refine f_ifY A62 d10_36 ((if0 _ _).trans (feq (by decide : ¬ (1 : Int32) = (0 : Int32))).2) (pc' := 57) (by decide) (by decide) ?_
  refine f_iconst A62 d10_57 (pc' := 58) rfl 1 rfl ?_
  refine f_istoreN A62 d10_58 (pc' := 59) rfl (L' := #[.val (.ref x), .val (.int (1 : Int32)), .unset]) rfl ?_
  refine f_iloadN A62 d10_59 (pc' := 60) rfl rfl ?_
  refine f_aloadN A62 d10_60 (pc' := 61) rfl rfl rfl ?_
  refine f_callV A62 (a := x) d10_61 (pc' := 64) rfl (wd hw 75 rfl) (wd hw 76 rfl) (nfS A62 (wd hw 78 rfl)) (wd hw 78 rfl) (wd hw 77 rfl) (by decide) F.exa pd4 [] [(.int (1 : Int32))] rfl rfl rfl 1 (Nat.le_of_eq rfl) (payLen (W := 1) A62 hw (wd hw 1 rfl) F O2 P5 (by decide) (by decide)) (kc := 0) (ks := 0) (by decide) (by decide) all0 (fun q => nomatch q) fun v63 T63 h63 L63 A63 K63 q63 => ?_
  obtain ⟨rfl, hh63⟩ := q63
  obtain rfl := hh63.symm
  show Wp pG e below _ T63 (mkF m 64 _ [(.int (2 : Int32)), (.int (1 : Int32))])
  refine f_icN A63 d10_64 (tlt (by decide : (1 : Int32) < (2 : Int32))).2.1 (pc' := 67) rfl ?_
  refine f_aloadN A63 d10_67 (pc' := 68) rfl rfl rfl ?_
  refine f_iloadN A63 d10_68 (pc' := 69) rfl rfl ?_
  refine f_callV A63 (a := x) d10_69 (pc' := 72) rfl (wd hw 50 rfl) (wd hw 51 rfl) (nfS A63 (wd hw 53 rfl)) (wd hw 53 rfl) (wd hw 52 rfl) (by decide) F.exa pd0 [(.int (1 : Int32))] [] rfl rfl rfl 0 (Nat.le_of_eq rfl) (payCh (W := 0) A63 hw (wd hw 1 rfl) F (fun c hc => (lat c hc).2) O2 P5 O4 rG3 1 (Nat.le_of_ble_eq_true rfl) rfl (by decide) (by decide)) (kc := 0) (ks := 0) (by decide) (by decide) all0 (fun q => nomatch q) fun v64 T64 h64 L64 A64 K64 q64 => ?_
  obtain ⟨rfl, hh64⟩ := q64
  obtain rfl := hh64.symm
  show Wp pG e below _ T64 (mkF m 72 _ [(.int d1)])
  refine f_istoreN A64 d10_72 (pc' := 73) rfl (L' := #[.val (.ref x), .val (.int (1 : Int32)), .val (.int d1)]) rfl ?_
  refine f_iloadN A64 d10_73 (pc' := 74) rfl rfl ?_
  refine f_callS A64 d10_74 (pc' := 77) rfl (wd hw 72 rfl) (wd hw 73 rfl) (wd hw 43 rfl) (wd hw 74 rfl) (by decide) pd3 [(.int d1)] [] rfl rfl rfl 0 (Nat.le_of_eq rfl) (CN.pay (W := 0) A64 (m_lod l Z a0 hw d1 h0 n0 A64.old) (wd hw 74 rfl) (wd hw 43 rfl) (by decide) (by decide)) (kc := 0) (ks := 0) (by decide) (by decide) all0 (fun q => nomatch q) fun v65 T65 h65 L65 A65 K65 q65 => ?_
  obtain ⟨rfl, hh65⟩ := q65
  obtain rfl := hh65.symm
  show Wp pG e below _ T65 (mkF m 77 _ [(.int (if Lod d1 then 1 else 0))])
  refine okStep A65 o1 ?_
  refine f_iinc A65 d10_115 (pc' := 118) rfl rfl (2 : Int32) (by decide) (L' := #[.val (.ref x), .val (.int (2 : Int32)), .val (.int d1)]) rfl ?_
  refine f_goto A65 d10_118 (pc' := 59) (by decide) (by decide) ?_
  refine f_iloadN A65 d10_59 (pc' := 60) rfl rfl ?_
  refine f_aloadN A65 d10_60 (pc' := 61) rfl rfl rfl ?_
  refine f_callV A65 (a := x) d10_61 (pc' := 64) rfl (wd hw 75 rfl) (wd hw 76 rfl) (nfS A65 (wd hw 78 rfl)) (wd hw 78 rfl) (wd hw 77 rfl) (by decide) F.exa pd4 [] [(.int (2 : Int32))] rfl rfl rfl 1 (Nat.le_of_eq rfl) (payLen (W := 1) A65 hw (wd hw 1 rfl) F O2 P5 (by decide) (by decide)) (kc := 0) (ks := 0) (by decide) (by decide) all0 (fun q => nomatch q) fun v66 T66 h66 L66 A66 K66 q66 => ?_
  obtain ⟨rfl, hh66⟩ := q66
  obtain rfl := hh66.symm
  show Wp pG e below _ T66 (mkF m 64 _ [(.int (2 : Int32)), (.int (2 : Int32))])
  refine f_icY A66 d10_64 (flt (by decide : ¬ (2 : Int32) < (2 : Int32))).2.1 (pc' := 121) (by decide) (by decide) ?_
  refine f_aloadN A66 d10_121 (pc' := 122) rfl rfl rfl ?_
  refine f_callV A66 (a := x) d10_122 (pc' := 125) rfl (wd hw 75 rfl) (wd hw 76 rfl) (nfS A66 (wd hw 78 rfl)) (wd hw 78 rfl) (wd hw 77 rfl) (by decide) F.exa pd4 [] [] rfl rfl rfl 0 (Nat.le_of_eq rfl) (payLen (W := 0) A66 hw (wd hw 1 rfl) F O2 P5 (by decide) (by decide)) (kc := 0) (ks := 0) (by decide) (by decide) all0 (fun q => nomatch q) fun v67 T67 h67 L67 A67 K67 q67 => ?_
  obtain ⟨rfl, hh67⟩ := q67
  obtain rfl := hh67.symm
  show Wp pG e below _ T67 (mkF m 125 _ [(.int (2 : Int32))])
  refine f_sipush A67 d10_125 (pc' := 128) rfl 128 rfl ?_
  refine f_icY A67 d10_128 (flt (by decide : ¬ (128 : Int32) < (2 : Int32))).2.2.2 (pc' := 145) (by decide) (by decide) ?_
  refine f_new A67 d10_145 (pc' := 148) rfl (wd hw 85 rfl) (wd hw 86 rfl) (wd hw 43 rfl) (by decide) (by decide) fun a68 T68 h68 g68 A68 E68 X68 D68 => ?_
  have z68 : n0 ≤ a68 := Nat.le_trans A67.sz (Nat.le_of_eq g68.symm)
  have y68 : h0.size ≤ a68 := Nat.le_trans K0.1 (Nat.le_of_eq g68.symm)
  have Q69 : Keep h0 h68 [] := K0.ext E68
  refine f_dup A68 d10_148 (pc' := 149) rfl rfl ?_
  refine f_aloadN A68 d10_149 (pc' := 150) rfl rfl rfl ?_
  refine f_callI A68 (a := a68) d10_150 (pc' := 153) rfl rfl (wd hw 87 rfl) (wd hw 88 rfl) (wd hw 89 rfl) (by decide) pd5 [(.ref x)] [(.ref a68)] rfl rfl rfl 1 (Nat.le_of_eq rfl) (CN.pay (W := 1) A68 (m_init l Z a0 hw a68 x h68 n0 A68.old X68 (show Fld Z h68 a68 "com/example/await_in_turn/awaitinturn/LockName" "name" "Ljava/lang/String;" .null from D68 (Or.inr (wd hw 92 rfl)) (ty := (.object "java/lang/String")) (by decide)) z68) (wd hw 89 rfl) (wd hw 43 rfl) (by decide) (by decide)) (kc := 0) (ks := 0) (by decide) (by decide) (allS z68 all0) (fun q => nomatch q) fun v70 T70 h70 L70 A70 K70 q70 => ?_
  have Q71 : Keep h0 h70 [] := Q69.trans K70 (allS (Or.inr y68) all0)
  obtain ⟨rfl, X70, F70⟩ := q70
  show Wp pG e below _ T70 (mkF m 153 _ [(.ref a68)])
  exact f_retRN A70 hlk hret d10_153 rfl rfl (by decide) (by decide) Q71 ⟨a68, rfl, y68, X70, F70⟩
set_option maxRecDepth 65536 in
set_option maxHeartbeats 40000000 in
theorem m_of3 (l : Launch) (Z : State) (a0 : Array Value) (hw : ∀ d ∈ tables_1, d.before a0 Z = true) (x t : Addr) (d0 d1 d2 : Int32) (zc : Int32) (O2 : Sta Z Z.heap "java/lang/String" "COMPACT_STRINGS" "Z" (.int zc)) (P5 : ¬ zc = 0) (fm : Value) (O4 : Sta Z Z.heap "jdk/internal/util/Preconditions" "SIOOBE_FORMATTER" "Ljava/util/function/BiFunction;" fm) (rG3 : fm.isRef = true) (h0 : Heap) (n0 : Nat) (ho : Old Z n0 h0) (F : Str Z h0 x t [d0, d1, d2]) (lat : ∀ c ∈ [d0, d1, d2], ¬ c < 0 ∧ ¬ (255 : Int32) < c) (o0 : Lod d0) (o1 : OkC d1) (o2 : OkC d2) :
    CN l (⟨"com/example/await_in_turn/awaitinturn/LockName", "of", "(Ljava/lang/String;)Lcom/example/await_in_turn/awaitinturn/LockName;"⟩ : MethodName) prog_4_method_2_code 3 (some (.object "com/example/await_in_turn/awaitinturn/LockName")) [] ({ frames := 5, cells := 1, slots := 1, locals := 90 } : Room) Z n0 h0 #[(.ref x)] [] (fun v h => ∃ a : Addr, v = some (.ref a) ∧ h0.size ≤ a ∧ Exa Z h a "com/example/await_in_turn/awaitinturn/LockName" ∧ Fld Z h a "com/example/await_in_turn/awaitinturn/LockName" "name" "Ljava/lang/String;" (.ref x)) := by
  refine CN.walk (plainFor_of_name pn1) ho (L0 := #[.val (.ref x), .unset, .unset]) (fun m => rfl) ?_
  intro pG e s m below meth cO T hlk hret hnm A0
  have K0 : Keep h0 h0 [] := Keep.refl _ _
  refine f_aloadN A0 d10_0 (pc' := 1) rfl rfl rfl ?_
  refine f_nonY A0 d10_1 (pc' := 14) (by decide) (by decide) ?_
  refine f_aloadN A0 d10_14 (pc' := 15) rfl rfl rfl ?_
  refine f_callV A0 (a := x) d10_15 (pc' := 18) rfl (wd hw 45 rfl) (wd hw 46 rfl) (nfS A0 (wd hw 48 rfl)) (wd hw 48 rfl) (wd hw 47 rfl) (by decide) F.exa pd2 [] [] rfl rfl rfl 0 (Nat.le_of_eq rfl) (payEmp (W := 0) A0 hw (wd hw 1 rfl) F (by decide) (by decide)) (kc := 0) (ks := 0) (by decide) (by decide) all0 (fun q => nomatch q) fun v72 T72 h72 L72 A72 K72 q72 => ?_
  obtain ⟨rfl, hh72⟩ := q72
  obtain rfl := hh72.symm
  show Wp pG e below _ T72 (mkF m 18 _ [(.int (0 : Int32))])
  refine f_ifY A72 d10_18 ((if0 _ _).trans (teq (by decide : (0 : Int32) = (0 : Int32))).1) (pc' := 28) (by decide) (by decide) ?_
  refine f_aloadN A72 d10_28 (pc' := 29) rfl rfl rfl ?_
  refine f_iconst A72 d10_29 (pc' := 30) rfl 0 rfl ?_
  refine f_callV A72 (a := x) d10_30 (pc' := 33) rfl (wd hw 50 rfl) (wd hw 51 rfl) (nfS A72 (wd hw 53 rfl)) (wd hw 53 rfl) (wd hw 52 rfl) (by decide) F.exa pd0 [(.int (0 : Int32))] [] rfl rfl rfl 0 (Nat.le_of_eq rfl) (payCh (W := 0) A72 hw (wd hw 1 rfl) F (fun c hc => (lat c hc).2) O2 P5 O4 rG3 0 (Nat.le_of_ble_eq_true rfl) rfl (by decide) (by decide)) (kc := 0) (ks := 0) (by decide) (by decide) all0 (fun q => nomatch q) fun v73 T73 h73 L73 A73 K73 q73 => ?_
  obtain ⟨rfl, hh73⟩ := q73
  obtain rfl := hh73.symm
  show Wp pG e below _ T73 (mkF m 33 _ [(.int d0)])
  refine f_callS A73 d10_33 (pc' := 36) rfl (wd hw 72 rfl) (wd hw 73 rfl) (wd hw 43 rfl) (wd hw 74 rfl) (by decide) pd3 [(.int d0)] [] rfl rfl rfl 0 (Nat.le_of_eq rfl) (CN.pay (W := 0) A73 (m_lod l Z a0 hw d0 h0 n0 A73.old) (wd hw 74 rfl) (wd hw 43 rfl) (by decide) (by decide)) (kc := 0) (ks := 0) (by decide) (by decide) all0 (fun q => nomatch q) fun v74 T74 h74 L74 A74 K74 q74 => ?_
  obtain ⟨rfl, hh74⟩ := q74
  obtain rfl := hh74.symm
  show Wp pG e below _ T74 (mkF m 36 _ [(.int (if Lod d0 then 1 else 0))])
  rw [if_pos o0]
  refine f_ifY A74 d10_36 ((if0 _ _).trans (feq (by decide : ¬ (1 : Int32) = (0 : Int32))).2) (pc' := 57) (by decide) (by decide) ?_
  refine f_iconst A74 d10_57 (pc' := 58) rfl 1 rfl ?_
  refine f_istoreN A74 d10_58 (pc' := 59) rfl (L' := #[.val (.ref x), .val (.int (1 : Int32)), .unset]) rfl ?_
  refine f_iloadN A74 d10_59 (pc' := 60) rfl rfl ?_
  refine f_aloadN A74 d10_60 (pc' := 61) rfl rfl rfl ?_
  refine f_callV A74 (a := x) d10_61 (pc' := 64) rfl (wd hw 75 rfl) (wd hw 76 rfl) (nfS A74 (wd hw 78 rfl)) (wd hw 78 rfl) (wd hw 77 rfl) (by decide) F.exa pd4 [] [(.int (1 : Int32))] rfl rfl rfl 1 (Nat.le_of_eq rfl) (payLen (W := 1) A74 hw (wd hw 1 rfl) F O2 P5 (by decide) (by decide)) (kc := 0) (ks := 0) (by decide) (by decide) all0 (fun q => nomatch q) fun v75 T75 h75 L75 A75 K75 q75 => ?_
  obtain ⟨rfl, hh75⟩ := q75
  obtain rfl := hh75.symm
  show Wp pG e below _ T75 (mkF m 64 _ [(.int (3 : Int32)), (.int (1 : Int32))])
  refine f_icN A75 d10_64 (tlt (by decide : (1 : Int32) < (3 : Int32))).2.1 (pc' := 67) rfl ?_
  refine f_aloadN A75 d10_67 (pc' := 68) rfl rfl rfl ?_
  refine f_iloadN A75 d10_68 (pc' := 69) rfl rfl ?_
  refine f_callV A75 (a := x) d10_69 (pc' := 72) rfl (wd hw 50 rfl) (wd hw 51 rfl) (nfS A75 (wd hw 53 rfl)) (wd hw 53 rfl) (wd hw 52 rfl) (by decide) F.exa pd0 [(.int (1 : Int32))] [] rfl rfl rfl 0 (Nat.le_of_eq rfl) (payCh (W := 0) A75 hw (wd hw 1 rfl) F (fun c hc => (lat c hc).2) O2 P5 O4 rG3 1 (Nat.le_of_ble_eq_true rfl) rfl (by decide) (by decide)) (kc := 0) (ks := 0) (by decide) (by decide) all0 (fun q => nomatch q) fun v76 T76 h76 L76 A76 K76 q76 => ?_
  obtain ⟨rfl, hh76⟩ := q76
  obtain rfl := hh76.symm
  show Wp pG e below _ T76 (mkF m 72 _ [(.int d1)])
  refine f_istoreN A76 d10_72 (pc' := 73) rfl (L' := #[.val (.ref x), .val (.int (1 : Int32)), .val (.int d1)]) rfl ?_
  refine f_iloadN A76 d10_73 (pc' := 74) rfl rfl ?_
  refine f_callS A76 d10_74 (pc' := 77) rfl (wd hw 72 rfl) (wd hw 73 rfl) (wd hw 43 rfl) (wd hw 74 rfl) (by decide) pd3 [(.int d1)] [] rfl rfl rfl 0 (Nat.le_of_eq rfl) (CN.pay (W := 0) A76 (m_lod l Z a0 hw d1 h0 n0 A76.old) (wd hw 74 rfl) (wd hw 43 rfl) (by decide) (by decide)) (kc := 0) (ks := 0) (by decide) (by decide) all0 (fun q => nomatch q) fun v77 T77 h77 L77 A77 K77 q77 => ?_
  obtain ⟨rfl, hh77⟩ := q77
  obtain rfl := hh77.symm
  show Wp pG e below _ T77 (mkF m 77 _ [(.int (if Lod d1 then 1 else 0))])
  refine okStep A77 o1 ?_
  refine f_iinc A77 d10_115 (pc' := 118) rfl rfl (2 : Int32) (by decide) (L' := #[.val (.ref x), .val (.int (2 : Int32)), .val (.int d1)]) rfl ?_
  refine f_goto A77 d10_118 (pc' := 59) (by decide) (by decide) ?_
  refine f_iloadN A77 d10_59 (pc' := 60) rfl rfl ?_
  refine f_aloadN A77 d10_60 (pc' := 61) rfl rfl rfl ?_
  refine f_callV A77 (a := x) d10_61 (pc' := 64) rfl (wd hw 75 rfl) (wd hw 76 rfl) (nfS A77 (wd hw 78 rfl)) (wd hw 78 rfl) (wd hw 77 rfl) (by decide) F.exa pd4 [] [(.int (2 : Int32))] rfl rfl rfl 1 (Nat.le_of_eq rfl) (payLen (W := 1) A77 hw (wd hw 1 rfl) F O2 P5 (by decide) (by decide)) (kc := 0) (ks := 0) (by decide) (by decide) all0 (fun q => nomatch q) fun v78 T78 h78 L78 A78 K78 q78 => ?_
  obtain ⟨rfl, hh78⟩ := q78
  obtain rfl := hh78.symm
  show Wp pG e below _ T78 (mkF m 64 _ [(.int (3 : Int32)), (.int (2 : Int32))])
  refine f_icN A78 d10_64 (tlt (by decide : (2 : Int32) < (3 : Int32))).2.1 (pc' := 67) rfl ?_
  refine f_aloadN A78 d10_67 (pc' := 68) rfl rfl rfl ?_
  refine f_iloadN A78 d10_68 (pc' := 69) rfl rfl ?_
  refine f_callV A78 (a := x) d10_69 (pc' := 72) rfl (wd hw 50 rfl) (wd hw 51 rfl) (nfS A78 (wd hw 53 rfl)) (wd hw 53 rfl) (wd hw 52 rfl) (by decide) F.exa pd0 [(.int (2 : Int32))] [] rfl rfl rfl 0 (Nat.le_of_eq rfl) (payCh (W := 0) A78 hw (wd hw 1 rfl) F (fun c hc => (lat c hc).2) O2 P5 O4 rG3 2 (Nat.le_of_ble_eq_true rfl) rfl (by decide) (by decide)) (kc := 0) (ks := 0) (by decide) (by decide) all0 (fun q => nomatch q) fun v79 T79 h79 L79 A79 K79 q79 => ?_
  obtain ⟨rfl, hh79⟩ := q79
  obtain rfl := hh79.symm
  show Wp pG e below _ T79 (mkF m 72 _ [(.int d2)])
  refine f_istoreN A79 d10_72 (pc' := 73) rfl (L' := #[.val (.ref x), .val (.int (2 : Int32)), .val (.int d2)]) rfl ?_
  refine f_iloadN A79 d10_73 (pc' := 74) rfl rfl ?_
  refine f_callS A79 d10_74 (pc' := 77) rfl (wd hw 72 rfl) (wd hw 73 rfl) (wd hw 43 rfl) (wd hw 74 rfl) (by decide) pd3 [(.int d2)] [] rfl rfl rfl 0 (Nat.le_of_eq rfl) (CN.pay (W := 0) A79 (m_lod l Z a0 hw d2 h0 n0 A79.old) (wd hw 74 rfl) (wd hw 43 rfl) (by decide) (by decide)) (kc := 0) (ks := 0) (by decide) (by decide) all0 (fun q => nomatch q) fun v80 T80 h80 L80 A80 K80 q80 => ?_
  obtain ⟨rfl, hh80⟩ := q80
  obtain rfl := hh80.symm
  show Wp pG e below _ T80 (mkF m 77 _ [(.int (if Lod d2 then 1 else 0))])
  refine okStep A80 o2 ?_
  refine f_iinc A80 d10_115 (pc' := 118) rfl rfl (3 : Int32) (by decide) (L' := #[.val (.ref x), .val (.int (3 : Int32)), .val (.int d2)]) rfl ?_
  refine f_goto A80 d10_118 (pc' := 59) (by decide) (by decide) ?_
  refine f_iloadN A80 d10_59 (pc' := 60) rfl rfl ?_
  refine f_aloadN A80 d10_60 (pc' := 61) rfl rfl rfl ?_
  refine f_callV A80 (a := x) d10_61 (pc' := 64) rfl (wd hw 75 rfl) (wd hw 76 rfl) (nfS A80 (wd hw 78 rfl)) (wd hw 78 rfl) (wd hw 77 rfl) (by decide) F.exa pd4 [] [(.int (3 : Int32))] rfl rfl rfl 1 (Nat.le_of_eq rfl) (payLen (W := 1) A80 hw (wd hw 1 rfl) F O2 P5 (by decide) (by decide)) (kc := 0) (ks := 0) (by decide) (by decide) all0 (fun q => nomatch q) fun v81 T81 h81 L81 A81 K81 q81 => ?_
  obtain ⟨rfl, hh81⟩ := q81
  obtain rfl := hh81.symm
  show Wp pG e below _ T81 (mkF m 64 _ [(.int (3 : Int32)), (.int (3 : Int32))])
  refine f_icY A81 d10_64 (flt (by decide : ¬ (3 : Int32) < (3 : Int32))).2.1 (pc' := 121) (by decide) (by decide) ?_
  refine f_aloadN A81 d10_121 (pc' := 122) rfl rfl rfl ?_
  refine f_callV A81 (a := x) d10_122 (pc' := 125) rfl (wd hw 75 rfl) (wd hw 76 rfl) (nfS A81 (wd hw 78 rfl)) (wd hw 78 rfl) (wd hw 77 rfl) (by decide) F.exa pd4 [] [] rfl rfl rfl 0 (Nat.le_of_eq rfl) (payLen (W := 0) A81 hw (wd hw 1 rfl) F O2 P5 (by decide) (by decide)) (kc := 0) (ks := 0) (by decide) (by decide) all0 (fun q => nomatch q) fun v82 T82 h82 L82 A82 K82 q82 => ?_
  obtain ⟨rfl, hh82⟩ := q82
  obtain rfl := hh82.symm
  show Wp pG e below _ T82 (mkF m 125 _ [(.int (3 : Int32))])
  refine f_sipush A82 d10_125 (pc' := 128) rfl 128 rfl ?_
  refine f_icY A82 d10_128 (flt (by decide : ¬ (128 : Int32) < (3 : Int32))).2.2.2 (pc' := 145) (by decide) (by decide) ?_
  refine f_new A82 d10_145 (pc' := 148) rfl (wd hw 85 rfl) (wd hw 86 rfl) (wd hw 43 rfl) (by decide) (by decide) fun a83 T83 h83 g83 A83 E83 X83 D83 => ?_
  have z83 : n0 ≤ a83 := Nat.le_trans A82.sz (Nat.le_of_eq g83.symm)
  have y83 : h0.size ≤ a83 := Nat.le_trans K0.1 (Nat.le_of_eq g83.symm)
  have Q84 : Keep h0 h83 [] := K0.ext E83
  refine f_dup A83 d10_148 (pc' := 149) rfl rfl ?_
  refine f_aloadN A83 d10_149 (pc' := 150) rfl rfl rfl ?_
  refine f_callI A83 (a := a83) d10_150 (pc' := 153) rfl rfl (wd hw 87 rfl) (wd hw 88 rfl) (wd hw 89 rfl) (by decide) pd5 [(.ref x)] [(.ref a83)] rfl rfl rfl 1 (Nat.le_of_eq rfl) (CN.pay (W := 1) A83 (m_init l Z a0 hw a83 x h83 n0 A83.old X83 (show Fld Z h83 a83 "com/example/await_in_turn/awaitinturn/LockName" "name" "Ljava/lang/String;" .null from D83 (Or.inr (wd hw 92 rfl)) (ty := (.object "java/lang/String")) (by decide)) z83) (wd hw 89 rfl) (wd hw 43 rfl) (by decide) (by decide)) (kc := 0) (ks := 0) (by decide) (by decide) (allS z83 all0) (fun q => nomatch q) fun v85 T85 h85 L85 A85 K85 q85 => ?_
  have Q86 : Keep h0 h85 [] := Q84.trans K85 (allS (Or.inr y83) all0)
  obtain ⟨rfl, X85, F85⟩ := q85
  show Wp pG e below _ T85 (mkF m 153 _ [(.ref a83)])
  exact f_retRN A85 hlk hret d10_153 rfl rfl (by decide) (by decide) Q86 ⟨a83, rfl, y83, X85, F85⟩
set_option maxRecDepth 65536 in
set_option maxHeartbeats 40000000 in
theorem m_of4 (l : Launch) (Z : State) (a0 : Array Value) (hw : ∀ d ∈ tables_1, d.before a0 Z = true) (x t : Addr) (d0 d1 d2 d3 : Int32) (zc : Int32) (O2 : Sta Z Z.heap "java/lang/String" "COMPACT_STRINGS" "Z" (.int zc)) (P5 : ¬ zc = 0) (fm : Value) (O4 : Sta Z Z.heap "jdk/internal/util/Preconditions" "SIOOBE_FORMATTER" "Ljava/util/function/BiFunction;" fm) (rG3 : fm.isRef = true) (h0 : Heap) (n0 : Nat) (ho : Old Z n0 h0) (F : Str Z h0 x t [d0, d1, d2, d3]) (lat : ∀ c ∈ [d0, d1, d2, d3], ¬ c < 0 ∧ ¬ (255 : Int32) < c) (o0 : Lod d0) (o1 : OkC d1) (o2 : OkC d2) (o3 : OkC d3) :
    CN l (⟨"com/example/await_in_turn/awaitinturn/LockName", "of", "(Ljava/lang/String;)Lcom/example/await_in_turn/awaitinturn/LockName;"⟩ : MethodName) prog_4_method_2_code 3 (some (.object "com/example/await_in_turn/awaitinturn/LockName")) [] ({ frames := 5, cells := 1, slots := 1, locals := 90 } : Room) Z n0 h0 #[(.ref x)] [] (fun v h => ∃ a : Addr, v = some (.ref a) ∧ h0.size ≤ a ∧ Exa Z h a "com/example/await_in_turn/awaitinturn/LockName" ∧ Fld Z h a "com/example/await_in_turn/awaitinturn/LockName" "name" "Ljava/lang/String;" (.ref x)) := by
  refine CN.walk (plainFor_of_name pn1) ho (L0 := #[.val (.ref x), .unset, .unset]) (fun m => rfl) ?_
  intro pG e s m below meth cO T hlk hret hnm A0
  have K0 : Keep h0 h0 [] := Keep.refl _ _
  refine f_aloadN A0 d10_0 (pc' := 1) rfl rfl rfl ?_
  refine f_nonY A0 d10_1 (pc' := 14) (by decide) (by decide) ?_
  refine f_aloadN A0 d10_14 (pc' := 15) rfl rfl rfl ?_
  refine f_callV A0 (a := x) d10_15 (pc' := 18) rfl (wd hw 45 rfl) (wd hw 46 rfl) (nfS A0 (wd hw 48 rfl)) (wd hw 48 rfl) (wd hw 47 rfl) (by decide) F.exa pd2 [] [] rfl rfl rfl 0 (Nat.le_of_eq rfl) (payEmp (W := 0) A0 hw (wd hw 1 rfl) F (by decide) (by decide)) (kc := 0) (ks := 0) (by decide) (by decide) all0 (fun q => nomatch q) fun v87 T87 h87 L87 A87 K87 q87 => ?_
  obtain ⟨rfl, hh87⟩ := q87
  obtain rfl := hh87.symm
  show Wp pG e below _ T87 (mkF m 18 _ [(.int (0 : Int32))])
  refine f_ifY A87 d10_18 ((if0 _ _).trans (teq (by decide : (0 : Int32) = (0 : Int32))).1) (pc' := 28) (by decide) (by decide) ?_
  refine f_aloadN A87 d10_28 (pc' := 29) rfl rfl rfl ?_
  refine f_iconst A87 d10_29 (pc' := 30) rfl 0 rfl ?_
  refine f_callV A87 (a := x) d10_30 (pc' := 33) rfl (wd hw 50 rfl) (wd hw 51 rfl) (nfS A87 (wd hw 53 rfl)) (wd hw 53 rfl) (wd hw 52 rfl) (by decide) F.exa pd0 [(.int (0 : Int32))] [] rfl rfl rfl 0 (Nat.le_of_eq rfl) (payCh (W := 0) A87 hw (wd hw 1 rfl) F (fun c hc => (lat c hc).2) O2 P5 O4 rG3 0 (Nat.le_of_ble_eq_true rfl) rfl (by decide) (by decide)) (kc := 0) (ks := 0) (by decide) (by decide) all0 (fun q => nomatch q) fun v88 T88 h88 L88 A88 K88 q88 => ?_
  obtain ⟨rfl, hh88⟩ := q88
  obtain rfl := hh88.symm
  show Wp pG e below _ T88 (mkF m 33 _ [(.int d0)])
  refine f_callS A88 d10_33 (pc' := 36) rfl (wd hw 72 rfl) (wd hw 73 rfl) (wd hw 43 rfl) (wd hw 74 rfl) (by decide) pd3 [(.int d0)] [] rfl rfl rfl 0 (Nat.le_of_eq rfl) (CN.pay (W := 0) A88 (m_lod l Z a0 hw d0 h0 n0 A88.old) (wd hw 74 rfl) (wd hw 43 rfl) (by decide) (by decide)) (kc := 0) (ks := 0) (by decide) (by decide) all0 (fun q => nomatch q) fun v89 T89 h89 L89 A89 K89 q89 => ?_
  obtain ⟨rfl, hh89⟩ := q89
  obtain rfl := hh89.symm
  show Wp pG e below _ T89 (mkF m 36 _ [(.int (if Lod d0 then 1 else 0))])
  rw [if_pos o0]
  refine f_ifY A89 d10_36 ((if0 _ _).trans (feq (by decide : ¬ (1 : Int32) = (0 : Int32))).2) (pc' := 57) (by decide) (by decide) ?_
  refine f_iconst A89 d10_57 (pc' := 58) rfl 1 rfl ?_
  refine f_istoreN A89 d10_58 (pc' := 59) rfl (L' := #[.val (.ref x), .val (.int (1 : Int32)), .unset]) rfl ?_
  refine f_iloadN A89 d10_59 (pc' := 60) rfl rfl ?_
  refine f_aloadN A89 d10_60 (pc' := 61) rfl rfl rfl ?_
  refine f_callV A89 (a := x) d10_61 (pc' := 64) rfl (wd hw 75 rfl) (wd hw 76 rfl) (nfS A89 (wd hw 78 rfl)) (wd hw 78 rfl) (wd hw 77 rfl) (by decide) F.exa pd4 [] [(.int (1 : Int32))] rfl rfl rfl 1 (Nat.le_of_eq rfl) (payLen (W := 1) A89 hw (wd hw 1 rfl) F O2 P5 (by decide) (by decide)) (kc := 0) (ks := 0) (by decide) (by decide) all0 (fun q => nomatch q) fun v90 T90 h90 L90 A90 K90 q90 => ?_
  obtain ⟨rfl, hh90⟩ := q90
  obtain rfl := hh90.symm
  show Wp pG e below _ T90 (mkF m 64 _ [(.int (4 : Int32)), (.int (1 : Int32))])
  refine f_icN A90 d10_64 (tlt (by decide : (1 : Int32) < (4 : Int32))).2.1 (pc' := 67) rfl ?_
  refine f_aloadN A90 d10_67 (pc' := 68) rfl rfl rfl ?_
  refine f_iloadN A90 d10_68 (pc' := 69) rfl rfl ?_
  refine f_callV A90 (a := x) d10_69 (pc' := 72) rfl (wd hw 50 rfl) (wd hw 51 rfl) (nfS A90 (wd hw 53 rfl)) (wd hw 53 rfl) (wd hw 52 rfl) (by decide) F.exa pd0 [(.int (1 : Int32))] [] rfl rfl rfl 0 (Nat.le_of_eq rfl) (payCh (W := 0) A90 hw (wd hw 1 rfl) F (fun c hc => (lat c hc).2) O2 P5 O4 rG3 1 (Nat.le_of_ble_eq_true rfl) rfl (by decide) (by decide)) (kc := 0) (ks := 0) (by decide) (by decide) all0 (fun q => nomatch q) fun v91 T91 h91 L91 A91 K91 q91 => ?_
  obtain ⟨rfl, hh91⟩ := q91
  obtain rfl := hh91.symm
  show Wp pG e below _ T91 (mkF m 72 _ [(.int d1)])
  refine f_istoreN A91 d10_72 (pc' := 73) rfl (L' := #[.val (.ref x), .val (.int (1 : Int32)), .val (.int d1)]) rfl ?_
  refine f_iloadN A91 d10_73 (pc' := 74) rfl rfl ?_
  refine f_callS A91 d10_74 (pc' := 77) rfl (wd hw 72 rfl) (wd hw 73 rfl) (wd hw 43 rfl) (wd hw 74 rfl) (by decide) pd3 [(.int d1)] [] rfl rfl rfl 0 (Nat.le_of_eq rfl) (CN.pay (W := 0) A91 (m_lod l Z a0 hw d1 h0 n0 A91.old) (wd hw 74 rfl) (wd hw 43 rfl) (by decide) (by decide)) (kc := 0) (ks := 0) (by decide) (by decide) all0 (fun q => nomatch q) fun v92 T92 h92 L92 A92 K92 q92 => ?_
  obtain ⟨rfl, hh92⟩ := q92
  obtain rfl := hh92.symm
  show Wp pG e below _ T92 (mkF m 77 _ [(.int (if Lod d1 then 1 else 0))])
  refine okStep A92 o1 ?_
  refine f_iinc A92 d10_115 (pc' := 118) rfl rfl (2 : Int32) (by decide) (L' := #[.val (.ref x), .val (.int (2 : Int32)), .val (.int d1)]) rfl ?_
  refine f_goto A92 d10_118 (pc' := 59) (by decide) (by decide) ?_
  refine f_iloadN A92 d10_59 (pc' := 60) rfl rfl ?_
  refine f_aloadN A92 d10_60 (pc' := 61) rfl rfl rfl ?_
  refine f_callV A92 (a := x) d10_61 (pc' := 64) rfl (wd hw 75 rfl) (wd hw 76 rfl) (nfS A92 (wd hw 78 rfl)) (wd hw 78 rfl) (wd hw 77 rfl) (by decide) F.exa pd4 [] [(.int (2 : Int32))] rfl rfl rfl 1 (Nat.le_of_eq rfl) (payLen (W := 1) A92 hw (wd hw 1 rfl) F O2 P5 (by decide) (by decide)) (kc := 0) (ks := 0) (by decide) (by decide) all0 (fun q => nomatch q) fun v93 T93 h93 L93 A93 K93 q93 => ?_
  obtain ⟨rfl, hh93⟩ := q93
  obtain rfl := hh93.symm
  show Wp pG e below _ T93 (mkF m 64 _ [(.int (4 : Int32)), (.int (2 : Int32))])
  refine f_icN A93 d10_64 (tlt (by decide : (2 : Int32) < (4 : Int32))).2.1 (pc' := 67) rfl ?_
  refine f_aloadN A93 d10_67 (pc' := 68) rfl rfl rfl ?_
  refine f_iloadN A93 d10_68 (pc' := 69) rfl rfl ?_
  refine f_callV A93 (a := x) d10_69 (pc' := 72) rfl (wd hw 50 rfl) (wd hw 51 rfl) (nfS A93 (wd hw 53 rfl)) (wd hw 53 rfl) (wd hw 52 rfl) (by decide) F.exa pd0 [(.int (2 : Int32))] [] rfl rfl rfl 0 (Nat.le_of_eq rfl) (payCh (W := 0) A93 hw (wd hw 1 rfl) F (fun c hc => (lat c hc).2) O2 P5 O4 rG3 2 (Nat.le_of_ble_eq_true rfl) rfl (by decide) (by decide)) (kc := 0) (ks := 0) (by decide) (by decide) all0 (fun q => nomatch q) fun v94 T94 h94 L94 A94 K94 q94 => ?_
  obtain ⟨rfl, hh94⟩ := q94
  obtain rfl := hh94.symm
  show Wp pG e below _ T94 (mkF m 72 _ [(.int d2)])
  refine f_istoreN A94 d10_72 (pc' := 73) rfl (L' := #[.val (.ref x), .val (.int (2 : Int32)), .val (.int d2)]) rfl ?_
  refine f_iloadN A94 d10_73 (pc' := 74) rfl rfl ?_
  refine f_callS A94 d10_74 (pc' := 77) rfl (wd hw 72 rfl) (wd hw 73 rfl) (wd hw 43 rfl) (wd hw 74 rfl) (by decide) pd3 [(.int d2)] [] rfl rfl rfl 0 (Nat.le_of_eq rfl) (CN.pay (W := 0) A94 (m_lod l Z a0 hw d2 h0 n0 A94.old) (wd hw 74 rfl) (wd hw 43 rfl) (by decide) (by decide)) (kc := 0) (ks := 0) (by decide) (by decide) all0 (fun q => nomatch q) fun v95 T95 h95 L95 A95 K95 q95 => ?_
  obtain ⟨rfl, hh95⟩ := q95
  obtain rfl := hh95.symm
  show Wp pG e below _ T95 (mkF m 77 _ [(.int (if Lod d2 then 1 else 0))])
  refine okStep A95 o2 ?_
  refine f_iinc A95 d10_115 (pc' := 118) rfl rfl (3 : Int32) (by decide) (L' := #[.val (.ref x), .val (.int (3 : Int32)), .val (.int d2)]) rfl ?_
  refine f_goto A95 d10_118 (pc' := 59) (by decide) (by decide) ?_
  refine f_iloadN A95 d10_59 (pc' := 60) rfl rfl ?_
  refine f_aloadN A95 d10_60 (pc' := 61) rfl rfl rfl ?_
  refine f_callV A95 (a := x) d10_61 (pc' := 64) rfl (wd hw 75 rfl) (wd hw 76 rfl) (nfS A95 (wd hw 78 rfl)) (wd hw 78 rfl) (wd hw 77 rfl) (by decide) F.exa pd4 [] [(.int (3 : Int32))] rfl rfl rfl 1 (Nat.le_of_eq rfl) (payLen (W := 1) A95 hw (wd hw 1 rfl) F O2 P5 (by decide) (by decide)) (kc := 0) (ks := 0) (by decide) (by decide) all0 (fun q => nomatch q) fun v96 T96 h96 L96 A96 K96 q96 => ?_
  obtain ⟨rfl, hh96⟩ := q96
  obtain rfl := hh96.symm
  show Wp pG e below _ T96 (mkF m 64 _ [(.int (4 : Int32)), (.int (3 : Int32))])
  refine f_icN A96 d10_64 (tlt (by decide : (3 : Int32) < (4 : Int32))).2.1 (pc' := 67) rfl ?_
  refine f_aloadN A96 d10_67 (pc' := 68) rfl rfl rfl ?_
  refine f_iloadN A96 d10_68 (pc' := 69) rfl rfl ?_
  refine f_callV A96 (a := x) d10_69 (pc' := 72) rfl (wd hw 50 rfl) (wd hw 51 rfl) (nfS A96 (wd hw 53 rfl)) (wd hw 53 rfl) (wd hw 52 rfl) (by decide) F.exa pd0 [(.int (3 : Int32))] [] rfl rfl rfl 0 (Nat.le_of_eq rfl) (payCh (W := 0) A96 hw (wd hw 1 rfl) F (fun c hc => (lat c hc).2) O2 P5 O4 rG3 3 (Nat.le_of_ble_eq_true rfl) rfl (by decide) (by decide)) (kc := 0) (ks := 0) (by decide) (by decide) all0 (fun q => nomatch q) fun v97 T97 h97 L97 A97 K97 q97 => ?_
  obtain ⟨rfl, hh97⟩ := q97
  obtain rfl := hh97.symm
  show Wp pG e below _ T97 (mkF m 72 _ [(.int d3)])
  refine f_istoreN A97 d10_72 (pc' := 73) rfl (L' := #[.val (.ref x), .val (.int (3 : Int32)), .val (.int d3)]) rfl ?_
  refine f_iloadN A97 d10_73 (pc' := 74) rfl rfl ?_
  refine f_callS A97 d10_74 (pc' := 77) rfl (wd hw 72 rfl) (wd hw 73 rfl) (wd hw 43 rfl) (wd hw 74 rfl) (by decide) pd3 [(.int d3)] [] rfl rfl rfl 0 (Nat.le_of_eq rfl) (CN.pay (W := 0) A97 (m_lod l Z a0 hw d3 h0 n0 A97.old) (wd hw 74 rfl) (wd hw 43 rfl) (by decide) (by decide)) (kc := 0) (ks := 0) (by decide) (by decide) all0 (fun q => nomatch q) fun v98 T98 h98 L98 A98 K98 q98 => ?_
  obtain ⟨rfl, hh98⟩ := q98
  obtain rfl := hh98.symm
  show Wp pG e below _ T98 (mkF m 77 _ [(.int (if Lod d3 then 1 else 0))])
  refine okStep A98 o3 ?_
  refine f_iinc A98 d10_115 (pc' := 118) rfl rfl (4 : Int32) (by decide) (L' := #[.val (.ref x), .val (.int (4 : Int32)), .val (.int d3)]) rfl ?_
  refine f_goto A98 d10_118 (pc' := 59) (by decide) (by decide) ?_
  refine f_iloadN A98 d10_59 (pc' := 60) rfl rfl ?_
  refine f_aloadN A98 d10_60 (pc' := 61) rfl rfl rfl ?_
  refine f_callV A98 (a := x) d10_61 (pc' := 64) rfl (wd hw 75 rfl) (wd hw 76 rfl) (nfS A98 (wd hw 78 rfl)) (wd hw 78 rfl) (wd hw 77 rfl) (by decide) F.exa pd4 [] [(.int (4 : Int32))] rfl rfl rfl 1 (Nat.le_of_eq rfl) (payLen (W := 1) A98 hw (wd hw 1 rfl) F O2 P5 (by decide) (by decide)) (kc := 0) (ks := 0) (by decide) (by decide) all0 (fun q => nomatch q) fun v99 T99 h99 L99 A99 K99 q99 => ?_
  obtain ⟨rfl, hh99⟩ := q99
  obtain rfl := hh99.symm
  show Wp pG e below _ T99 (mkF m 64 _ [(.int (4 : Int32)), (.int (4 : Int32))])
  refine f_icY A99 d10_64 (flt (by decide : ¬ (4 : Int32) < (4 : Int32))).2.1 (pc' := 121) (by decide) (by decide) ?_
  refine f_aloadN A99 d10_121 (pc' := 122) rfl rfl rfl ?_
  refine f_callV A99 (a := x) d10_122 (pc' := 125) rfl (wd hw 75 rfl) (wd hw 76 rfl) (nfS A99 (wd hw 78 rfl)) (wd hw 78 rfl) (wd hw 77 rfl) (by decide) F.exa pd4 [] [] rfl rfl rfl 0 (Nat.le_of_eq rfl) (payLen (W := 0) A99 hw (wd hw 1 rfl) F O2 P5 (by decide) (by decide)) (kc := 0) (ks := 0) (by decide) (by decide) all0 (fun q => nomatch q) fun v100 T100 h100 L100 A100 K100 q100 => ?_
  obtain ⟨rfl, hh100⟩ := q100
  obtain rfl := hh100.symm
  show Wp pG e below _ T100 (mkF m 125 _ [(.int (4 : Int32))])
  refine f_sipush A100 d10_125 (pc' := 128) rfl 128 rfl ?_
  refine f_icY A100 d10_128 (flt (by decide : ¬ (128 : Int32) < (4 : Int32))).2.2.2 (pc' := 145) (by decide) (by decide) ?_
  refine f_new A100 d10_145 (pc' := 148) rfl (wd hw 85 rfl) (wd hw 86 rfl) (wd hw 43 rfl) (by decide) (by decide) fun a101 T101 h101 g101 A101 E101 X101 D101 => ?_
  have z101 : n0 ≤ a101 := Nat.le_trans A100.sz (Nat.le_of_eq g101.symm)
  have y101 : h0.size ≤ a101 := Nat.le_trans K0.1 (Nat.le_of_eq g101.symm)
  have Q102 : Keep h0 h101 [] := K0.ext E101
  refine f_dup A101 d10_148 (pc' := 149) rfl rfl ?_
  refine f_aloadN A101 d10_149 (pc' := 150) rfl rfl rfl ?_
  refine f_callI A101 (a := a101) d10_150 (pc' := 153) rfl rfl (wd hw 87 rfl) (wd hw 88 rfl) (wd hw 89 rfl) (by decide) pd5 [(.ref x)] [(.ref a101)] rfl rfl rfl 1 (Nat.le_of_eq rfl) (CN.pay (W := 1) A101 (m_init l Z a0 hw a101 x h101 n0 A101.old X101 (show Fld Z h101 a101 "com/example/await_in_turn/awaitinturn/LockName" "name" "Ljava/lang/String;" .null from D101 (Or.inr (wd hw 92 rfl)) (ty := (.object "java/lang/String")) (by decide)) z101) (wd hw 89 rfl) (wd hw 43 rfl) (by decide) (by decide)) (kc := 0) (ks := 0) (by decide) (by decide) (allS z101 all0) (fun q => nomatch q) fun v103 T103 h103 L103 A103 K103 q103 => ?_
  have Q104 : Keep h0 h103 [] := Q102.trans K103 (allS (Or.inr y101) all0)
  obtain ⟨rfl, X103, F103⟩ := q103
  show Wp pG e below _ T103 (mkF m 153 _ [(.ref a101)])
  exact f_retRN A103 hlk hret d10_153 rfl rfl (by decide) (by decide) Q104 ⟨a101, rfl, y101, X103, F103⟩
theorem d21_0 : decode prog_4_method_6_code 0 = .ok (.aload_n 0, 1) := by decide +kernel
theorem d21_1 : decode prog_4_method_6_code 1 = .ok (.getfield 7, 3) := by decide +kernel
theorem d21_4 : decode prog_4_method_6_code 4 = .ok (.areturn, 1) := by decide +kernel
set_option maxRecDepth 65536 in
set_option maxHeartbeats 40000000 in
theorem m_toS (l : Launch) (Z : State) (a0 : Array Value) (hw : ∀ d ∈ tables_1, d.before a0 Z = true) (a x : Addr) (h0 : Heap) (n0 : Nat) (ho : Old Z n0 h0) (F : Fld Z h0 a "com/example/await_in_turn/awaitinturn/LockName" "name" "Ljava/lang/String;" (.ref x)) :
    CN l (⟨"com/example/await_in_turn/awaitinturn/LockName", "toString", "()Ljava/lang/String;"⟩ : MethodName) prog_4_method_6_code 1 (some (.object "java/lang/String")) [] ({ frames := 0, cells := 0, slots := 0, locals := 0 } : Room) Z n0 h0 #[(.ref a)] [] (fun v h => v = some (.ref x) ∧ h = h0) := by
  refine CN.walk (plainFor_of_name pn1) ho (L0 := #[.val (.ref a)]) (fun m => rfl) ?_
  intro pG e s m below meth cO T hlk hret hnm A0
  have K0 : Keep h0 h0 [] := Keep.refl _ _
  refine f_aloadN A0 d21_0 (pc' := 1) rfl rfl rfl ?_
  refine f_getF A0 d21_1 (pc' := 4) rfl (host := "") (Or.inl (wd hw 91 rfl)) Via.refl F fun T105 A105 => ?_
  exact f_retRN A105 hlk hret d21_4 rfl rfl (by decide) (by decide) K0 ⟨rfl, rfl⟩
theorem d23_0 : decode prog_4_method_7_code 0 = .ok (.aload_n 1, 1) := by decide +kernel
theorem d23_1 : decode prog_4_method_7_code 1 = .ok (.instanceof 8, 3) := by decide +kernel
theorem d23_4 : decode prog_4_method_7_code 4 = .ok (.ifCond .eq 26, 3) := by decide +kernel
theorem d23_7 : decode prog_4_method_7_code 7 = .ok (.aload_n 1, 1) := by decide +kernel
theorem d23_8 : decode prog_4_method_7_code 8 = .ok (.checkcast 8, 3) := by decide +kernel
theorem d23_11 : decode prog_4_method_7_code 11 = .ok (.astore_n 2, 1) := by decide +kernel
theorem d23_12 : decode prog_4_method_7_code 12 = .ok (.aload_n 2, 1) := by decide +kernel
theorem d23_13 : decode prog_4_method_7_code 13 = .ok (.getfield 7, 3) := by decide +kernel
theorem d23_16 : decode prog_4_method_7_code 16 = .ok (.aload_n 0, 1) := by decide +kernel
theorem d23_17 : decode prog_4_method_7_code 17 = .ok (.getfield 7, 3) := by decide +kernel
theorem d23_20 : decode prog_4_method_7_code 20 = .ok (.invokevirtual 86, 3) := by decide +kernel
theorem pd6 : parseMethodDescriptor "(Ljava/lang/Object;)Z" = some ⟨[(.object "java/lang/Object")], some .boolean⟩ := by decide +kernel
theorem d23_23 : decode prog_4_method_7_code 23 = .ok (.ifCond .eq 7, 3) := by decide +kernel
theorem d23_26 : decode prog_4_method_7_code 26 = .ok (.iconst 1, 1) := by decide +kernel
theorem d23_27 : decode prog_4_method_7_code 27 = .ok (.goto 4, 3) := by decide +kernel
theorem d23_31 : decode prog_4_method_7_code 31 = .ok (.ireturn, 1) := by decide +kernel
set_option maxRecDepth 65536 in
set_option maxHeartbeats 40000000 in
theorem m_eq (l : Launch) (Z : State) (a0 : Array Value) (hw : ∀ d ∈ tables_1, d.before a0 Z = true) (a b x y t u : Addr) (cs : List Int32) (zc : Int32) (O2 : Sta Z Z.heap "java/lang/String" "COMPACT_STRINGS" "Z" (.int zc)) (P5 : ¬ zc = 0) (h0 : Heap) (n0 : Nat) (ho : Old Z n0 h0) (Ea : Exa Z h0 a "com/example/await_in_turn/awaitinturn/LockName") (Eb : Exa Z h0 b "com/example/await_in_turn/awaitinturn/LockName") (Fa : Fld Z h0 a "com/example/await_in_turn/awaitinturn/LockName" "name" "Ljava/lang/String;" (.ref x)) (Fb : Fld Z h0 b "com/example/await_in_turn/awaitinturn/LockName" "name" "Ljava/lang/String;" (.ref y)) (Sx : Str Z h0 x t cs) (Sy : Str Z h0 y u cs) :
    CN l (⟨"com/example/await_in_turn/awaitinturn/LockName", "equals", "(Ljava/lang/Object;)Z"⟩ : MethodName) prog_4_method_7_code 3 (some .boolean) [] ({ frames := 3, cells := 0, slots := 0, locals := 60 } : Room) Z n0 h0 #[(.ref a), (.ref b)] [] (fun v h => v = some (.int 1) ∧ h = h0) := by
  refine CN.walk (plainFor_of_name pn1) ho (L0 := #[.val (.ref a), .val (.ref b), .unset]) (fun m => rfl) ?_
  intro pG e s m below meth cO T hlk hret hnm A0
  have K0 : Keep h0 h0 [] := Keep.refl _ _
  refine f_aloadN A0 d23_0 (pc' := 1) rfl rfl rfl ?_
  refine f_instY A0 d23_1 (pc' := 4) rfl (wd hw 85 rfl) (Ins.self Eb) fun T106 A106 => ?_
  refine f_ifN A106 d23_4 ((if0 _ _).trans (feq (by decide : ¬ (1 : Int32) = (0 : Int32))).1) (pc' := 7) rfl ?_
  refine f_aloadN A106 d23_7 (pc' := 8) rfl rfl rfl ?_
  refine f_cast A106 d23_8 (pc' := 11) rfl (wd hw 85 rfl) (Ins.self Eb) fun T107 A107 => ?_
  refine f_astoreN A107 d23_11 (pc' := 12) rfl rfl (L' := #[.val (.ref a), .val (.ref b), .val (.ref b)]) rfl ?_
  refine f_aloadN A107 d23_12 (pc' := 13) rfl rfl rfl ?_
  refine f_getF A107 d23_13 (pc' := 16) rfl (host := "") (Or.inl (wd hw 91 rfl)) Via.refl Fb fun T108 A108 => ?_
  refine f_aloadN A108 d23_16 (pc' := 17) rfl rfl rfl ?_
  refine f_getF A108 d23_17 (pc' := 20) rfl (host := "") (Or.inl (wd hw 91 rfl)) Via.refl Fa fun T109 A109 => ?_
  refine f_callV A109 (a := y) d23_20 (pc' := 23) rfl (wd hw 109 rfl) (wd hw 99 rfl) (nfS A109 (wd hw 101 rfl)) (wd hw 101 rfl) (wd hw 100 rfl) (by decide) Sy.exa pd6 [(.ref x)] [] rfl rfl rfl 0 (Nat.le_of_eq rfl) (payEq (W := 0) A109 hw (wd hw 1 rfl) Sy Sx O2 P5 (by decide) (by decide)) (kc := 0) (ks := 0) (by decide) (by decide) all0 (fun q => nomatch q) fun v110 T110 h110 L110 A110 K110 q110 => ?_
  obtain ⟨e110, hh110⟩ := q110
  obtain rfl := hh110.symm
  rw [if_pos (rfl)] at e110
  subst e110
  show Wp pG e below _ T110 (mkF m 23 _ [(.int (1 : Int32))])
  refine f_ifN A110 d23_23 ((if0 _ _).trans (feq (by decide : ¬ (1 : Int32) = (0 : Int32))).1) (pc' := 26) rfl ?_
  refine f_iconst A110 d23_26 (pc' := 27) rfl 1 rfl ?_
  refine f_goto A110 d23_27 (pc' := 31) (by decide) (by decide) ?_
  exact f_retBN A110 hlk hret d23_31 (by decide) (1 : Int32) (by decide) (by decide) (by decide) K0 ⟨rfl, rfl⟩
theorem pd7 : parseMethodDescriptor "(IIIII)[C" = some ⟨[.int, .int, .int, .int, .int], some (.array .char)⟩ := by decide +kernel
theorem pd8 : parseMethodDescriptor "([C)V" = some ⟨[(.array .char)], none⟩ := by decide +kernel
theorem pd9 : parseMethodDescriptor "(Ljava/lang/String;)Lcom/example/await_in_turn/awaitinturn/LockName;" = some ⟨[(.object "java/lang/String")], some (.object "com/example/await_in_turn/awaitinturn/LockName")⟩ := by decide +kernel
theorem pd10 : parseMethodDescriptor "()Ljava/lang/String;" = some ⟨[], some (.object "java/lang/String")⟩ := by decide +kernel
set_option maxRecDepth 65536 in
set_option maxHeartbeats 40000000 in
theorem m_law (l : Launch) (Z : State) (a0 : Array Value) (hw : ∀ d ∈ tables_1, d.before a0 Z = true) (ws : List Jvm.Cond) (nn c0 c1 c2 c3 : Int32) (zc : Int32) (O2 : Sta Z Z.heap "java/lang/String" "COMPACT_STRINGS" "Z" (.int zc)) (P5 : ¬ zc = 0) (fm : Value) (O4 : Sta Z Z.heap "jdk/internal/util/Preconditions" "SIOOBE_FORMATTER" "Ljava/util/function/BiFunction;" fm) (rG3 : fm.isRef = true) (h0 : Heap) (n0 : Nat) (ho : Old Z n0 h0)  :
    CN l x code maxLocals ret ws room_1 Z n0 h0 #[(.int nn), (.int c0), (.int c1), (.int c2), (.int c3)] [] (fun v h => v = some (.int 1)) := by
  refine CN.walk (plainFor_of_name pn0) ho (L0 := #[.val (.int nn), .val (.int c0), .val (.int c1), .val (.int c2), .val (.int c3), .unset, .unset, .unset, .unset, .unset]) (fun m => rfl) ?_
  intro pG e s m below meth cO T hlk hret hnm A0
  have K0 : Keep h0 h0 [] := Keep.refl _ _
  obtain ⟨k0, hk0⟩ : ∃ k, (c0 &&& 2147483647) % 62 = k := ⟨_, rfl⟩
  obtain ⟨k1, hk1⟩ : ∃ k, (c1 &&& 2147483647) % 65 = k := ⟨_, rfl⟩
  obtain ⟨k2, hk2⟩ : ∃ k, (c2 &&& 2147483647) % 65 = k := ⟨_, rfl⟩
  obtain ⟨k3, hk3⟩ : ∃ k, (c3 &&& 2147483647) % 65 = k := ⟨_, rfl⟩
  have r0 := hk0 ▸ rem62 c0
  have r1 := hk1 ▸ rem65 c1
  have r2 := hk2 ▸ rem65 c2
  have r3 := hk3 ▸ rem65 c3
  obtain ⟨b, hb3⟩ : ∃ b, nn &&& 3 = b := ⟨_, rfl⟩
  have hb4 : b = 0 ∨ b = 1 ∨ b = 2 ∨ b = 3 := by
    have q := c_and nn 3 (by decide); rw [hb3] at q; have e : (3 : Int32).toInt = 3 := rfl
    have : b.toInt = 0 ∨ b.toInt = 1 ∨ b.toInt = 2 ∨ b.toInt = 3 := by omega
    rcases this with z | z | z | z
    · exact Or.inl (Int32.toInt_inj.mp z)
    · exact Or.inr (Or.inl (Int32.toInt_inj.mp z))
    · exact Or.inr (Or.inr (Or.inl (Int32.toInt_inj.mp z)))
    · exact Or.inr (Or.inr (Or.inr (Int32.toInt_inj.mp z)))
  rcases hb4 with rfl | rfl | rfl | rfl
  · refine f_iconst A0 at_0 (pc' := 1) rfl 1 rfl ?_
    refine f_iloadN A0 at_1 (pc' := 2) rfl rfl ?_
    refine f_iconst A0 at_2 (pc' := 3) rfl 3 rfl ?_
    refine f_iand A0 at_3 (pc' := 4) rfl (0 : Int32) hb3 ?_
    refine f_iadd A0 at_4 (pc' := 5) rfl (1 : Int32) (by decide) ?_
    refine f_istore A0 at_5 (pc' := 7) rfl (L' := #[.val (.int nn), .val (.int c0), .val (.int c1), .val (.int c2), .val (.int c3), .val (.int (1 : Int32)), .unset, .unset, .unset, .unset]) rfl ?_
    refine f_new A0 at_7 (pc' := 10) rfl (wd hw 0 rfl) (wd hw 1 rfl) (wd hw 2 rfl) (by decide) (by decide) fun a111 T111 h111 g111 A111 E111 X111 D111 => ?_
    have z111 : n0 ≤ a111 := Nat.le_trans A0.sz (Nat.le_of_eq g111.symm)
    have y111 : h0.size ≤ a111 := Nat.le_trans K0.1 (Nat.le_of_eq g111.symm)
    have Q112 : Keep h0 h111 [] := K0.ext E111
    refine f_dup A111 at_10 (pc' := 11) rfl rfl ?_
    refine f_iload A111 at_11 (pc' := 13) rfl rfl ?_
    refine f_iloadN A111 at_13 (pc' := 14) rfl rfl ?_
    refine f_iloadN A111 at_14 (pc' := 15) rfl rfl ?_
    refine f_iloadN A111 at_15 (pc' := 16) rfl rfl ?_
    refine f_iload A111 at_16 (pc' := 18) rfl rfl ?_
    refine f_callS A111 at_18 (pc' := 21) rfl (wd hw 3 rfl) (wd hw 4 rfl) (wd hw 5 rfl) (wd hw 6 rfl) (by decide) pd7 [(.int (1 : Int32)), (.int c0), (.int c1), (.int c2), (.int c3)] [(.ref a111), (.ref a111)] rfl rfl rfl 2 (Nat.le_of_eq rfl) (CN.pay (W := 2) A111 (m_fill1 l Z a0 hw c0 c1 c2 c3 k0 k1 k2 k3 h111 n0 A111.old hk0 hk1 hk2 hk3 r0 r1 r2 r3) (wd hw 6 rfl) (wd hw 5 rfl) (by decide) (by decide)) (kc := 1) (ks := 1) (by decide) (by decide) all0 (fun q => nomatch q) fun v113 T113 h113 L113 A113 K113 q113 => ?_
    have Q114 : Keep h0 h113 [] := Q112.trans K113 all0
    obtain ⟨b113, kA113, rfl, bg113, V113⟩ := q113
    show Wp pG e below _ T113 (mkF m 21 _ [(.ref b113), (.ref a111), (.ref a111)])
    have c115 := (X111.keep K113)
    have c116 := ((show Fld Z h111 a111 "java/lang/String" "value" "[B" .null from D111 (Or.inr (wd hw 40 rfl)) (ty := (.array .byte)) (by decide)).keep K113 nin0)
    have c117 := ((show Fld Z h111 a111 "java/lang/String" "coder" "B" (.int (0 : Int32)) from D111 (Or.inr (wd hw 38 rfl)) (ty := .byte) (by decide)).keep K113 nin0)
    refine f_callI A113 (a := a111) at_21 (pc' := 24) rfl rfl (wd hw 15 rfl) (wd hw 16 rfl) (wd hw 17 rfl) (by decide) pd8 [(.ref b113)] [(.ref a111)] rfl rfl rfl 1 (Nat.le_of_eq rfl) (payNew (W := 1) A113 hw (wd hw 1 rfl) (cs := [(fstK k0)]) 1 z111 c115 c116 c117 V113 O2 P5 rfl rfl (by decide) (by decide) (lc (lat_of (fst_rng r0)) ln) (by decide) (by decide)) (kc := 1) (ks := 1) (by decide) (by decide) (allS z111 all0) (fun q => nomatch q) fun v118 T118 h118 L118 A118 K118 q118 => ?_
    have Q119 : Keep h0 h118 [] := Q114.trans K118 (allS (Or.inr y111) all0)
    obtain ⟨rfl, t118, tz118, tg118, tn118, G118⟩ := q118
    show Wp pG e below _ T118 (mkF m 24 _ [(.ref a111)])
    refine f_astore A118 at_24 (pc' := 26) rfl rfl (L' := #[.val (.int nn), .val (.int c0), .val (.int c1), .val (.int c2), .val (.int c3), .val (.int (1 : Int32)), .val (.ref a111), .unset, .unset, .unset]) rfl ?_
    refine f_new A118 at_26 (pc' := 29) rfl (wd hw 0 rfl) (wd hw 1 rfl) (wd hw 2 rfl) (by decide) (by decide) fun a120 T120 h120 g120 A120 E120 X120 D120 => ?_
    have z120 : n0 ≤ a120 := Nat.le_trans A118.sz (Nat.le_of_eq g120.symm)
    have y120 : h0.size ≤ a120 := Nat.le_trans Q119.1 (Nat.le_of_eq g120.symm)
    have Q121 : Keep h0 h120 [] := Q119.ext E120
    refine f_dup A120 at_29 (pc' := 30) rfl rfl ?_
    refine f_iload A120 at_30 (pc' := 32) rfl rfl ?_
    refine f_iloadN A120 at_32 (pc' := 33) rfl rfl ?_
    refine f_iloadN A120 at_33 (pc' := 34) rfl rfl ?_
    refine f_iloadN A120 at_34 (pc' := 35) rfl rfl ?_
    refine f_iload A120 at_35 (pc' := 37) rfl rfl ?_
    refine f_callS A120 at_37 (pc' := 40) rfl (wd hw 3 rfl) (wd hw 4 rfl) (wd hw 5 rfl) (wd hw 6 rfl) (by decide) pd7 [(.int (1 : Int32)), (.int c0), (.int c1), (.int c2), (.int c3)] [(.ref a120), (.ref a120)] rfl rfl rfl 2 (Nat.le_of_eq rfl) (CN.pay (W := 2) A120 (m_fill1 l Z a0 hw c0 c1 c2 c3 k0 k1 k2 k3 h120 n0 A120.old hk0 hk1 hk2 hk3 r0 r1 r2 r3) (wd hw 6 rfl) (wd hw 5 rfl) (by decide) (by decide)) (kc := 1) (ks := 1) (by decide) (by decide) all0 (fun q => nomatch q) fun v122 T122 h122 L122 A122 K122 q122 => ?_
    have Q123 : Keep h0 h122 [] := Q121.trans K122 all0
    obtain ⟨b122, kA122, rfl, bg122, V122⟩ := q122
    show Wp pG e below _ T122 (mkF m 40 _ [(.ref b122), (.ref a120), (.ref a120)])
    have c124 := (X120.keep K122)
    have c125 := ((show Fld Z h120 a120 "java/lang/String" "value" "[B" .null from D120 (Or.inr (wd hw 40 rfl)) (ty := (.array .byte)) (by decide)).keep K122 nin0)
    have c126 := ((show Fld Z h120 a120 "java/lang/String" "coder" "B" (.int (0 : Int32)) from D120 (Or.inr (wd hw 38 rfl)) (ty := .byte) (by decide)).keep K122 nin0)
    refine f_callI A122 (a := a120) at_40 (pc' := 43) rfl rfl (wd hw 15 rfl) (wd hw 16 rfl) (wd hw 17 rfl) (by decide) pd8 [(.ref b122)] [(.ref a120)] rfl rfl rfl 1 (Nat.le_of_eq rfl) (payNew (W := 1) A122 hw (wd hw 1 rfl) (cs := [(fstK k0)]) 1 z120 c124 c125 c126 V122 O2 P5 rfl rfl (by decide) (by decide) (lc (lat_of (fst_rng r0)) ln) (by decide) (by decide)) (kc := 1) (ks := 1) (by decide) (by decide) (allS z120 all0) (fun q => nomatch q) fun v127 T127 h127 L127 A127 K127 q127 => ?_
    have Q128 : Keep h0 h127 [] := Q123.trans K127 (allS (Or.inr y120) all0)
    obtain ⟨rfl, t127, tz127, tg127, tn127, G127⟩ := q127
    show Wp pG e below _ T127 (mkF m 43 _ [(.ref a120)])
    refine f_astore A127 at_43 (pc' := 45) rfl rfl (L' := #[.val (.int nn), .val (.int c0), .val (.int c1), .val (.int c2), .val (.int c3), .val (.int (1 : Int32)), .val (.ref a111), .val (.ref a120), .unset, .unset]) rfl ?_
    refine f_aload A127 at_45 (pc' := 47) rfl rfl rfl ?_
    have c129 := (((G118.ext E120).keep K122 nin0 nin0).keep K127 (ninS (Nat.ne_of_lt (Nat.lt_of_lt_of_le (Nat.lt_of_lt_of_le (Nat.lt_of_lt_of_le X111.lt K113.1) K118.1) (Nat.le_of_eq g120.symm))) nin0) (ninS (Nat.ne_of_lt (Nat.lt_of_lt_of_le G118.lt' (Nat.le_of_eq g120.symm))) nin0))
    refine f_callS A127 at_47 (pc' := 50) rfl (wd hw 41 rfl) (wd hw 42 rfl) (wd hw 43 rfl) (wd hw 44 rfl) (by decide) pd9 [(.ref a111)] [] rfl rfl rfl 0 (Nat.le_of_eq rfl) (CN.pay (W := 0) A127 (m_of1 l Z a0 hw a111 t118 (fstK k0) zc O2 P5 fm O4 rG3 h127 n0 A127.old c129 (lc (lat_of (fst_rng r0)) ln) (fst_lod r0) ) (wd hw 44 rfl) (wd hw 43 rfl) (by decide) (by decide)) (kc := 1) (ks := 1) (by decide) (by decide) all0 (fun q => nomatch q) fun v130 T130 h130 L130 A130 K130 q130 => ?_
    have Q131 : Keep h0 h130 [] := Q128.trans K130 all0
    obtain ⟨b130, rfl, bg130, X130, F130⟩ := q130
    show Wp pG e below _ T130 (mkF m 50 _ [(.ref b130)])
    refine f_astore A130 at_50 (pc' := 52) rfl rfl (L' := #[.val (.int nn), .val (.int c0), .val (.int c1), .val (.int c2), .val (.int c3), .val (.int (1 : Int32)), .val (.ref a111), .val (.ref a120), .val (.ref b130), .unset]) rfl ?_
    refine f_aload A130 at_52 (pc' := 54) rfl rfl rfl ?_
    have c132 := (G127.keep K130 nin0 nin0)
    refine f_callS A130 at_54 (pc' := 57) rfl (wd hw 41 rfl) (wd hw 42 rfl) (wd hw 43 rfl) (wd hw 44 rfl) (by decide) pd9 [(.ref a120)] [] rfl rfl rfl 0 (Nat.le_of_eq rfl) (CN.pay (W := 0) A130 (m_of1 l Z a0 hw a120 t127 (fstK k0) zc O2 P5 fm O4 rG3 h130 n0 A130.old c132 (lc (lat_of (fst_rng r0)) ln) (fst_lod r0) ) (wd hw 44 rfl) (wd hw 43 rfl) (by decide) (by decide)) (kc := 1) (ks := 1) (by decide) (by decide) all0 (fun q => nomatch q) fun v133 T133 h133 L133 A133 K133 q133 => ?_
    have Q134 : Keep h0 h133 [] := Q131.trans K133 all0
    obtain ⟨b133, rfl, bg133, X133, F133⟩ := q133
    show Wp pG e below _ T133 (mkF m 57 _ [(.ref b133)])
    refine f_astore A133 at_57 (pc' := 59) rfl rfl (L' := #[.val (.int nn), .val (.int c0), .val (.int c1), .val (.int c2), .val (.int c3), .val (.int (1 : Int32)), .val (.ref a111), .val (.ref a120), .val (.ref b130), .val (.ref b133)]) rfl ?_
    refine f_aload A133 at_59 (pc' := 61) rfl rfl rfl ?_
    have c135 := (F130.keep K133 nin0)
    have c137 := (X130.keep K133)
    refine f_callV A133 (a := b130) at_61 (pc' := 64) rfl (wd hw 93 rfl) (wd hw 94 rfl) (nfS A133 (wd hw 96 rfl)) (wd hw 96 rfl) (wd hw 95 rfl) (by decide) c137 pd10 [] [] rfl rfl rfl 0 (Nat.le_of_eq rfl) (CN.pay (W := 0) A133 (m_toS l Z a0 hw b130 a111 h133 n0 A133.old c135) (wd hw 97 rfl) (wd hw 43 rfl) (by decide) (by decide)) (kc := 0) (ks := 0) (by decide) (by decide) all0 (fun q => nomatch q) fun v136 T136 h136 L136 A136 K136 q136 => ?_
    obtain ⟨rfl, hh136⟩ := q136
    obtain rfl := hh136.symm
    show Wp pG e below _ T136 (mkF m 64 _ [(.ref a111)])
    refine f_aload A136 at_64 (pc' := 66) rfl rfl rfl ?_
    have c138 := ((c129.keep K130 nin0 nin0).keep K133 nin0 nin0)
    have c140 := (((((G118.exa.ext E120).keep K122).keep K127).keep K130).keep K133)
    refine f_callV A136 (a := a111) at_66 (pc' := 69) rfl (wd hw 98 rfl) (wd hw 99 rfl) (nfS A136 (wd hw 101 rfl)) (wd hw 101 rfl) (wd hw 100 rfl) (by decide) c140 pd6 [(.ref a111)] [] rfl rfl rfl 0 (Nat.le_of_eq rfl) (payEq (W := 0) A136 hw (wd hw 1 rfl) c138 c138 O2 P5 (by decide) (by decide)) (kc := 0) (ks := 0) (by decide) (by decide) all0 (fun q => nomatch q) fun v139 T139 h139 L139 A139 K139 q139 => ?_
    obtain ⟨e139, hh139⟩ := q139
    obtain rfl := hh139.symm
    rw [if_pos (rfl)] at e139
    subst e139
    show Wp pG e below _ T139 (mkF m 69 _ [(.int (1 : Int32))])
    refine f_ifN A139 at_69 ((if0 _ _).trans (feq (by decide : ¬ (1 : Int32) = (0 : Int32))).1) (pc' := 72) rfl ?_
    refine f_aload A139 at_72 (pc' := 74) rfl rfl rfl ?_
    refine f_aload A139 at_74 (pc' := 76) rfl rfl rfl ?_
    have c141 := (c132.keep K133 nin0 nin0)
    refine f_callV A139 (a := b130) at_76 (pc' := 79) rfl (wd hw 103 rfl) (wd hw 104 rfl) (nfS A139 (wd hw 106 rfl)) (wd hw 106 rfl) (wd hw 105 rfl) (by decide) c137 pd6 [(.ref b133)] [] rfl rfl rfl 0 (Nat.le_of_eq rfl) (CN.pay (W := 0) A139 (m_eq l Z a0 hw b130 b133 a111 a120 t118 t127 [(fstK k0)] zc O2 P5 h133 n0 A139.old c137 X133 c135 F133 c138 c141) (wd hw 107 rfl) (wd hw 43 rfl) (by decide) (by decide)) (kc := 0) (ks := 0) (by decide) (by decide) all0 (fun q => nomatch q) fun v142 T142 h142 L142 A142 K142 q142 => ?_
    obtain ⟨rfl, hh142⟩ := q142
    obtain rfl := hh142.symm
    show Wp pG e below _ T142 (mkF m 79 _ [(.int (1 : Int32))])
    refine f_ifN A142 at_79 ((if0 _ _).trans (feq (by decide : ¬ (1 : Int32) = (0 : Int32))).1) (pc' := 82) rfl ?_
    refine f_iconst A142 at_82 (pc' := 83) rfl 1 rfl ?_
    refine f_goto A142 at_83 (pc' := 87) (by decide) (by decide) ?_
    exact f_retBN A142 hlk hret at_87 (by decide) (1 : Int32) (by decide) (by decide) (by decide) Q134 rfl
  · refine f_iconst A0 at_0 (pc' := 1) rfl 1 rfl ?_
    refine f_iloadN A0 at_1 (pc' := 2) rfl rfl ?_
    refine f_iconst A0 at_2 (pc' := 3) rfl 3 rfl ?_
    refine f_iand A0 at_3 (pc' := 4) rfl (1 : Int32) hb3 ?_
    refine f_iadd A0 at_4 (pc' := 5) rfl (2 : Int32) (by decide) ?_
    refine f_istore A0 at_5 (pc' := 7) rfl (L' := #[.val (.int nn), .val (.int c0), .val (.int c1), .val (.int c2), .val (.int c3), .val (.int (2 : Int32)), .unset, .unset, .unset, .unset]) rfl ?_
    refine f_new A0 at_7 (pc' := 10) rfl (wd hw 0 rfl) (wd hw 1 rfl) (wd hw 2 rfl) (by decide) (by decide) fun a143 T143 h143 g143 A143 E143 X143 D143 => ?_
    have z143 : n0 ≤ a143 := Nat.le_trans A0.sz (Nat.le_of_eq g143.symm)
    have y143 : h0.size ≤ a143 := Nat.le_trans K0.1 (Nat.le_of_eq g143.symm)
    have Q144 : Keep h0 h143 [] := K0.ext E143
    refine f_dup A143 at_10 (pc' := 11) rfl rfl ?_
    refine f_iload A143 at_11 (pc' := 13) rfl rfl ?_
    refine f_iloadN A143 at_13 (pc' := 14) rfl rfl ?_
    refine f_iloadN A143 at_14 (pc' := 15) rfl rfl ?_
    refine f_iloadN A143 at_15 (pc' := 16) rfl rfl ?_
    refine f_iload A143 at_16 (pc' := 18) rfl rfl ?_
    refine f_callS A143 at_18 (pc' := 21) rfl (wd hw 3 rfl) (wd hw 4 rfl) (wd hw 5 rfl) (wd hw 6 rfl) (by decide) pd7 [(.int (2 : Int32)), (.int c0), (.int c1), (.int c2), (.int c3)] [(.ref a143), (.ref a143)] rfl rfl rfl 2 (Nat.le_of_eq rfl) (CN.pay (W := 2) A143 (m_fill2 l Z a0 hw c0 c1 c2 c3 k0 k1 k2 k3 h143 n0 A143.old hk0 hk1 hk2 hk3 r0 r1 r2 r3) (wd hw 6 rfl) (wd hw 5 rfl) (by decide) (by decide)) (kc := 1) (ks := 2) (by decide) (by decide) all0 (fun q => nomatch q) fun v145 T145 h145 L145 A145 K145 q145 => ?_
    have Q146 : Keep h0 h145 [] := Q144.trans K145 all0
    obtain ⟨b145, kA145, rfl, bg145, V145⟩ := q145
    show Wp pG e below _ T145 (mkF m 21 _ [(.ref b145), (.ref a143), (.ref a143)])
    have c147 := (X143.keep K145)
    have c148 := ((show Fld Z h143 a143 "java/lang/String" "value" "[B" .null from D143 (Or.inr (wd hw 40 rfl)) (ty := (.array .byte)) (by decide)).keep K145 nin0)
    have c149 := ((show Fld Z h143 a143 "java/lang/String" "coder" "B" (.int (0 : Int32)) from D143 (Or.inr (wd hw 38 rfl)) (ty := .byte) (by decide)).keep K145 nin0)
    refine f_callI A145 (a := a143) at_21 (pc' := 24) rfl rfl (wd hw 15 rfl) (wd hw 16 rfl) (wd hw 17 rfl) (by decide) pd8 [(.ref b145)] [(.ref a143)] rfl rfl rfl 1 (Nat.le_of_eq rfl) (payNew (W := 1) A145 hw (wd hw 1 rfl) (cs := [(fstK k0), (rstK k1)]) 2 z143 c147 c148 c149 V145 O2 P5 rfl rfl (by decide) (by decide) (lc (lat_of (fst_rng r0)) (lc (lat_of (rst_rng r1)) ln)) (by decide) (by decide)) (kc := 1) (ks := 2) (by decide) (by decide) (allS z143 all0) (fun q => nomatch q) fun v150 T150 h150 L150 A150 K150 q150 => ?_
    have Q151 : Keep h0 h150 [] := Q146.trans K150 (allS (Or.inr y143) all0)
    obtain ⟨rfl, t150, tz150, tg150, tn150, G150⟩ := q150
    show Wp pG e below _ T150 (mkF m 24 _ [(.ref a143)])
    refine f_astore A150 at_24 (pc' := 26) rfl rfl (L' := #[.val (.int nn), .val (.int c0), .val (.int c1), .val (.int c2), .val (.int c3), .val (.int (2 : Int32)), .val (.ref a143), .unset, .unset, .unset]) rfl ?_
    refine f_new A150 at_26 (pc' := 29) rfl (wd hw 0 rfl) (wd hw 1 rfl) (wd hw 2 rfl) (by decide) (by decide) fun a152 T152 h152 g152 A152 E152 X152 D152 => ?_
    have z152 : n0 ≤ a152 := Nat.le_trans A150.sz (Nat.le_of_eq g152.symm)
    have y152 : h0.size ≤ a152 := Nat.le_trans Q151.1 (Nat.le_of_eq g152.symm)
    have Q153 : Keep h0 h152 [] := Q151.ext E152
    refine f_dup A152 at_29 (pc' := 30) rfl rfl ?_
    refine f_iload A152 at_30 (pc' := 32) rfl rfl ?_
    refine f_iloadN A152 at_32 (pc' := 33) rfl rfl ?_
    refine f_iloadN A152 at_33 (pc' := 34) rfl rfl ?_
    refine f_iloadN A152 at_34 (pc' := 35) rfl rfl ?_
    refine f_iload A152 at_35 (pc' := 37) rfl rfl ?_
    refine f_callS A152 at_37 (pc' := 40) rfl (wd hw 3 rfl) (wd hw 4 rfl) (wd hw 5 rfl) (wd hw 6 rfl) (by decide) pd7 [(.int (2 : Int32)), (.int c0), (.int c1), (.int c2), (.int c3)] [(.ref a152), (.ref a152)] rfl rfl rfl 2 (Nat.le_of_eq rfl) (CN.pay (W := 2) A152 (m_fill2 l Z a0 hw c0 c1 c2 c3 k0 k1 k2 k3 h152 n0 A152.old hk0 hk1 hk2 hk3 r0 r1 r2 r3) (wd hw 6 rfl) (wd hw 5 rfl) (by decide) (by decide)) (kc := 1) (ks := 2) (by decide) (by decide) all0 (fun q => nomatch q) fun v154 T154 h154 L154 A154 K154 q154 => ?_
    have Q155 : Keep h0 h154 [] := Q153.trans K154 all0
    obtain ⟨b154, kA154, rfl, bg154, V154⟩ := q154
    show Wp pG e below _ T154 (mkF m 40 _ [(.ref b154), (.ref a152), (.ref a152)])
    have c156 := (X152.keep K154)
    have c157 := ((show Fld Z h152 a152 "java/lang/String" "value" "[B" .null from D152 (Or.inr (wd hw 40 rfl)) (ty := (.array .byte)) (by decide)).keep K154 nin0)
    have c158 := ((show Fld Z h152 a152 "java/lang/String" "coder" "B" (.int (0 : Int32)) from D152 (Or.inr (wd hw 38 rfl)) (ty := .byte) (by decide)).keep K154 nin0)
    refine f_callI A154 (a := a152) at_40 (pc' := 43) rfl rfl (wd hw 15 rfl) (wd hw 16 rfl) (wd hw 17 rfl) (by decide) pd8 [(.ref b154)] [(.ref a152)] rfl rfl rfl 1 (Nat.le_of_eq rfl) (payNew (W := 1) A154 hw (wd hw 1 rfl) (cs := [(fstK k0), (rstK k1)]) 2 z152 c156 c157 c158 V154 O2 P5 rfl rfl (by decide) (by decide) (lc (lat_of (fst_rng r0)) (lc (lat_of (rst_rng r1)) ln)) (by decide) (by decide)) (kc := 1) (ks := 2) (by decide) (by decide) (allS z152 all0) (fun q => nomatch q) fun v159 T159 h159 L159 A159 K159 q159 => ?_
    have Q160 : Keep h0 h159 [] := Q155.trans K159 (allS (Or.inr y152) all0)
    obtain ⟨rfl, t159, tz159, tg159, tn159, G159⟩ := q159
    show Wp pG e below _ T159 (mkF m 43 _ [(.ref a152)])
    refine f_astore A159 at_43 (pc' := 45) rfl rfl (L' := #[.val (.int nn), .val (.int c0), .val (.int c1), .val (.int c2), .val (.int c3), .val (.int (2 : Int32)), .val (.ref a143), .val (.ref a152), .unset, .unset]) rfl ?_
    refine f_aload A159 at_45 (pc' := 47) rfl rfl rfl ?_
    have c161 := (((G150.ext E152).keep K154 nin0 nin0).keep K159 (ninS (Nat.ne_of_lt (Nat.lt_of_lt_of_le (Nat.lt_of_lt_of_le (Nat.lt_of_lt_of_le X143.lt K145.1) K150.1) (Nat.le_of_eq g152.symm))) nin0) (ninS (Nat.ne_of_lt (Nat.lt_of_lt_of_le G150.lt' (Nat.le_of_eq g152.symm))) nin0))
    refine f_callS A159 at_47 (pc' := 50) rfl (wd hw 41 rfl) (wd hw 42 rfl) (wd hw 43 rfl) (wd hw 44 rfl) (by decide) pd9 [(.ref a143)] [] rfl rfl rfl 0 (Nat.le_of_eq rfl) (CN.pay (W := 0) A159 (m_of2 l Z a0 hw a143 t150 (fstK k0) (rstK k1) zc O2 P5 fm O4 rG3 h159 n0 A159.old c161 (lc (lat_of (fst_rng r0)) (lc (lat_of (rst_rng r1)) ln)) (fst_lod r0) (rst_ok r1)) (wd hw 44 rfl) (wd hw 43 rfl) (by decide) (by decide)) (kc := 1) (ks := 1) (by decide) (by decide) all0 (fun q => nomatch q) fun v162 T162 h162 L162 A162 K162 q162 => ?_
    have Q163 : Keep h0 h162 [] := Q160.trans K162 all0
    obtain ⟨b162, rfl, bg162, X162, F162⟩ := q162
    show Wp pG e below _ T162 (mkF m 50 _ [(.ref b162)])
    refine f_astore A162 at_50 (pc' := 52) rfl rfl (L' := #[.val (.int nn), .val (.int c0), .val (.int c1), .val (.int c2), .val (.int c3), .val (.int (2 : Int32)), .val (.ref a143), .val (.ref a152), .val (.ref b162), .unset]) rfl ?_
    refine f_aload A162 at_52 (pc' := 54) rfl rfl rfl ?_
    have c164 := (G159.keep K162 nin0 nin0)
    refine f_callS A162 at_54 (pc' := 57) rfl (wd hw 41 rfl) (wd hw 42 rfl) (wd hw 43 rfl) (wd hw 44 rfl) (by decide) pd9 [(.ref a152)] [] rfl rfl rfl 0 (Nat.le_of_eq rfl) (CN.pay (W := 0) A162 (m_of2 l Z a0 hw a152 t159 (fstK k0) (rstK k1) zc O2 P5 fm O4 rG3 h162 n0 A162.old c164 (lc (lat_of (fst_rng r0)) (lc (lat_of (rst_rng r1)) ln)) (fst_lod r0) (rst_ok r1)) (wd hw 44 rfl) (wd hw 43 rfl) (by decide) (by decide)) (kc := 1) (ks := 1) (by decide) (by decide) all0 (fun q => nomatch q) fun v165 T165 h165 L165 A165 K165 q165 => ?_
    have Q166 : Keep h0 h165 [] := Q163.trans K165 all0
    obtain ⟨b165, rfl, bg165, X165, F165⟩ := q165
    show Wp pG e below _ T165 (mkF m 57 _ [(.ref b165)])
    refine f_astore A165 at_57 (pc' := 59) rfl rfl (L' := #[.val (.int nn), .val (.int c0), .val (.int c1), .val (.int c2), .val (.int c3), .val (.int (2 : Int32)), .val (.ref a143), .val (.ref a152), .val (.ref b162), .val (.ref b165)]) rfl ?_
    refine f_aload A165 at_59 (pc' := 61) rfl rfl rfl ?_
    have c167 := (F162.keep K165 nin0)
    have c169 := (X162.keep K165)
    refine f_callV A165 (a := b162) at_61 (pc' := 64) rfl (wd hw 93 rfl) (wd hw 94 rfl) (nfS A165 (wd hw 96 rfl)) (wd hw 96 rfl) (wd hw 95 rfl) (by decide) c169 pd10 [] [] rfl rfl rfl 0 (Nat.le_of_eq rfl) (CN.pay (W := 0) A165 (m_toS l Z a0 hw b162 a143 h165 n0 A165.old c167) (wd hw 97 rfl) (wd hw 43 rfl) (by decide) (by decide)) (kc := 0) (ks := 0) (by decide) (by decide) all0 (fun q => nomatch q) fun v168 T168 h168 L168 A168 K168 q168 => ?_
    obtain ⟨rfl, hh168⟩ := q168
    obtain rfl := hh168.symm
    show Wp pG e below _ T168 (mkF m 64 _ [(.ref a143)])
    refine f_aload A168 at_64 (pc' := 66) rfl rfl rfl ?_
    have c170 := ((c161.keep K162 nin0 nin0).keep K165 nin0 nin0)
    have c172 := (((((G150.exa.ext E152).keep K154).keep K159).keep K162).keep K165)
    refine f_callV A168 (a := a143) at_66 (pc' := 69) rfl (wd hw 98 rfl) (wd hw 99 rfl) (nfS A168 (wd hw 101 rfl)) (wd hw 101 rfl) (wd hw 100 rfl) (by decide) c172 pd6 [(.ref a143)] [] rfl rfl rfl 0 (Nat.le_of_eq rfl) (payEq (W := 0) A168 hw (wd hw 1 rfl) c170 c170 O2 P5 (by decide) (by decide)) (kc := 0) (ks := 0) (by decide) (by decide) all0 (fun q => nomatch q) fun v171 T171 h171 L171 A171 K171 q171 => ?_
    obtain ⟨e171, hh171⟩ := q171
    obtain rfl := hh171.symm
    rw [if_pos (rfl)] at e171
    subst e171
    show Wp pG e below _ T171 (mkF m 69 _ [(.int (1 : Int32))])
    refine f_ifN A171 at_69 ((if0 _ _).trans (feq (by decide : ¬ (1 : Int32) = (0 : Int32))).1) (pc' := 72) rfl ?_
    refine f_aload A171 at_72 (pc' := 74) rfl rfl rfl ?_
    refine f_aload A171 at_74 (pc' := 76) rfl rfl rfl ?_
    have c173 := (c164.keep K165 nin0 nin0)
    refine f_callV A171 (a := b162) at_76 (pc' := 79) rfl (wd hw 103 rfl) (wd hw 104 rfl) (nfS A171 (wd hw 106 rfl)) (wd hw 106 rfl) (wd hw 105 rfl) (by decide) c169 pd6 [(.ref b165)] [] rfl rfl rfl 0 (Nat.le_of_eq rfl) (CN.pay (W := 0) A171 (m_eq l Z a0 hw b162 b165 a143 a152 t150 t159 [(fstK k0), (rstK k1)] zc O2 P5 h165 n0 A171.old c169 X165 c167 F165 c170 c173) (wd hw 107 rfl) (wd hw 43 rfl) (by decide) (by decide)) (kc := 0) (ks := 0) (by decide) (by decide) all0 (fun q => nomatch q) fun v174 T174 h174 L174 A174 K174 q174 => ?_
    obtain ⟨rfl, hh174⟩ := q174
    obtain rfl := hh174.symm
    show Wp pG e below _ T174 (mkF m 79 _ [(.int (1 : Int32))])
    refine f_ifN A174 at_79 ((if0 _ _).trans (feq (by decide : ¬ (1 : Int32) = (0 : Int32))).1) (pc' := 82) rfl ?_
    refine f_iconst A174 at_82 (pc' := 83) rfl 1 rfl ?_
    refine f_goto A174 at_83 (pc' := 87) (by decide) (by decide) ?_
    exact f_retBN A174 hlk hret at_87 (by decide) (1 : Int32) (by decide) (by decide) (by decide) Q166 rfl
  · refine f_iconst A0 at_0 (pc' := 1) rfl 1 rfl ?_
    refine f_iloadN A0 at_1 (pc' := 2) rfl rfl ?_
    refine f_iconst A0 at_2 (pc' := 3) rfl 3 rfl ?_
    refine f_iand A0 at_3 (pc' := 4) rfl (2 : Int32) hb3 ?_
    refine f_iadd A0 at_4 (pc' := 5) rfl (3 : Int32) (by decide) ?_
    refine f_istore A0 at_5 (pc' := 7) rfl (L' := #[.val (.int nn), .val (.int c0), .val (.int c1), .val (.int c2), .val (.int c3), .val (.int (3 : Int32)), .unset, .unset, .unset, .unset]) rfl ?_
    refine f_new A0 at_7 (pc' := 10) rfl (wd hw 0 rfl) (wd hw 1 rfl) (wd hw 2 rfl) (by decide) (by decide) fun a175 T175 h175 g175 A175 E175 X175 D175 => ?_
    have z175 : n0 ≤ a175 := Nat.le_trans A0.sz (Nat.le_of_eq g175.symm)
    have y175 : h0.size ≤ a175 := Nat.le_trans K0.1 (Nat.le_of_eq g175.symm)
    have Q176 : Keep h0 h175 [] := K0.ext E175
    refine f_dup A175 at_10 (pc' := 11) rfl rfl ?_
    refine f_iload A175 at_11 (pc' := 13) rfl rfl ?_
    refine f_iloadN A175 at_13 (pc' := 14) rfl rfl ?_
    refine f_iloadN A175 at_14 (pc' := 15) rfl rfl ?_
    refine f_iloadN A175 at_15 (pc' := 16) rfl rfl ?_
    refine f_iload A175 at_16 (pc' := 18) rfl rfl ?_
    refine f_callS A175 at_18 (pc' := 21) rfl (wd hw 3 rfl) (wd hw 4 rfl) (wd hw 5 rfl) (wd hw 6 rfl) (by decide) pd7 [(.int (3 : Int32)), (.int c0), (.int c1), (.int c2), (.int c3)] [(.ref a175), (.ref a175)] rfl rfl rfl 2 (Nat.le_of_eq rfl) (CN.pay (W := 2) A175 (m_fill3 l Z a0 hw c0 c1 c2 c3 k0 k1 k2 k3 h175 n0 A175.old hk0 hk1 hk2 hk3 r0 r1 r2 r3) (wd hw 6 rfl) (wd hw 5 rfl) (by decide) (by decide)) (kc := 1) (ks := 3) (by decide) (by decide) all0 (fun q => nomatch q) fun v177 T177 h177 L177 A177 K177 q177 => ?_
    have Q178 : Keep h0 h177 [] := Q176.trans K177 all0
    obtain ⟨b177, kA177, rfl, bg177, V177⟩ := q177
    show Wp pG e below _ T177 (mkF m 21 _ [(.ref b177), (.ref a175), (.ref a175)])
    have c179 := (X175.keep K177)
    have c180 := ((show Fld Z h175 a175 "java/lang/String" "value" "[B" .null from D175 (Or.inr (wd hw 40 rfl)) (ty := (.array .byte)) (by decide)).keep K177 nin0)
    have c181 := ((show Fld Z h175 a175 "java/lang/String" "coder" "B" (.int (0 : Int32)) from D175 (Or.inr (wd hw 38 rfl)) (ty := .byte) (by decide)).keep K177 nin0)
    refine f_callI A177 (a := a175) at_21 (pc' := 24) rfl rfl (wd hw 15 rfl) (wd hw 16 rfl) (wd hw 17 rfl) (by decide) pd8 [(.ref b177)] [(.ref a175)] rfl rfl rfl 1 (Nat.le_of_eq rfl) (payNew (W := 1) A177 hw (wd hw 1 rfl) (cs := [(fstK k0), (rstK k1), (rstK k2)]) 3 z175 c179 c180 c181 V177 O2 P5 rfl rfl (by decide) (by decide) (lc (lat_of (fst_rng r0)) (lc (lat_of (rst_rng r1)) (lc (lat_of (rst_rng r2)) ln))) (by decide) (by decide)) (kc := 1) (ks := 3) (by decide) (by decide) (allS z175 all0) (fun q => nomatch q) fun v182 T182 h182 L182 A182 K182 q182 => ?_
    have Q183 : Keep h0 h182 [] := Q178.trans K182 (allS (Or.inr y175) all0)
    obtain ⟨rfl, t182, tz182, tg182, tn182, G182⟩ := q182
    show Wp pG e below _ T182 (mkF m 24 _ [(.ref a175)])
    refine f_astore A182 at_24 (pc' := 26) rfl rfl (L' := #[.val (.int nn), .val (.int c0), .val (.int c1), .val (.int c2), .val (.int c3), .val (.int (3 : Int32)), .val (.ref a175), .unset, .unset, .unset]) rfl ?_
    refine f_new A182 at_26 (pc' := 29) rfl (wd hw 0 rfl) (wd hw 1 rfl) (wd hw 2 rfl) (by decide) (by decide) fun a184 T184 h184 g184 A184 E184 X184 D184 => ?_
    have z184 : n0 ≤ a184 := Nat.le_trans A182.sz (Nat.le_of_eq g184.symm)
    have y184 : h0.size ≤ a184 := Nat.le_trans Q183.1 (Nat.le_of_eq g184.symm)
    have Q185 : Keep h0 h184 [] := Q183.ext E184
    refine f_dup A184 at_29 (pc' := 30) rfl rfl ?_
    refine f_iload A184 at_30 (pc' := 32) rfl rfl ?_
    refine f_iloadN A184 at_32 (pc' := 33) rfl rfl ?_
    refine f_iloadN A184 at_33 (pc' := 34) rfl rfl ?_
    refine f_iloadN A184 at_34 (pc' := 35) rfl rfl ?_
    refine f_iload A184 at_35 (pc' := 37) rfl rfl ?_
    refine f_callS A184 at_37 (pc' := 40) rfl (wd hw 3 rfl) (wd hw 4 rfl) (wd hw 5 rfl) (wd hw 6 rfl) (by decide) pd7 [(.int (3 : Int32)), (.int c0), (.int c1), (.int c2), (.int c3)] [(.ref a184), (.ref a184)] rfl rfl rfl 2 (Nat.le_of_eq rfl) (CN.pay (W := 2) A184 (m_fill3 l Z a0 hw c0 c1 c2 c3 k0 k1 k2 k3 h184 n0 A184.old hk0 hk1 hk2 hk3 r0 r1 r2 r3) (wd hw 6 rfl) (wd hw 5 rfl) (by decide) (by decide)) (kc := 1) (ks := 3) (by decide) (by decide) all0 (fun q => nomatch q) fun v186 T186 h186 L186 A186 K186 q186 => ?_
    have Q187 : Keep h0 h186 [] := Q185.trans K186 all0
    obtain ⟨b186, kA186, rfl, bg186, V186⟩ := q186
    show Wp pG e below _ T186 (mkF m 40 _ [(.ref b186), (.ref a184), (.ref a184)])
    have c188 := (X184.keep K186)
    have c189 := ((show Fld Z h184 a184 "java/lang/String" "value" "[B" .null from D184 (Or.inr (wd hw 40 rfl)) (ty := (.array .byte)) (by decide)).keep K186 nin0)
    have c190 := ((show Fld Z h184 a184 "java/lang/String" "coder" "B" (.int (0 : Int32)) from D184 (Or.inr (wd hw 38 rfl)) (ty := .byte) (by decide)).keep K186 nin0)
    refine f_callI A186 (a := a184) at_40 (pc' := 43) rfl rfl (wd hw 15 rfl) (wd hw 16 rfl) (wd hw 17 rfl) (by decide) pd8 [(.ref b186)] [(.ref a184)] rfl rfl rfl 1 (Nat.le_of_eq rfl) (payNew (W := 1) A186 hw (wd hw 1 rfl) (cs := [(fstK k0), (rstK k1), (rstK k2)]) 3 z184 c188 c189 c190 V186 O2 P5 rfl rfl (by decide) (by decide) (lc (lat_of (fst_rng r0)) (lc (lat_of (rst_rng r1)) (lc (lat_of (rst_rng r2)) ln))) (by decide) (by decide)) (kc := 1) (ks := 3) (by decide) (by decide) (allS z184 all0) (fun q => nomatch q) fun v191 T191 h191 L191 A191 K191 q191 => ?_
    have Q192 : Keep h0 h191 [] := Q187.trans K191 (allS (Or.inr y184) all0)
    obtain ⟨rfl, t191, tz191, tg191, tn191, G191⟩ := q191
    show Wp pG e below _ T191 (mkF m 43 _ [(.ref a184)])
    refine f_astore A191 at_43 (pc' := 45) rfl rfl (L' := #[.val (.int nn), .val (.int c0), .val (.int c1), .val (.int c2), .val (.int c3), .val (.int (3 : Int32)), .val (.ref a175), .val (.ref a184), .unset, .unset]) rfl ?_
    refine f_aload A191 at_45 (pc' := 47) rfl rfl rfl ?_
    have c193 := (((G182.ext E184).keep K186 nin0 nin0).keep K191 (ninS (Nat.ne_of_lt (Nat.lt_of_lt_of_le (Nat.lt_of_lt_of_le (Nat.lt_of_lt_of_le X175.lt K177.1) K182.1) (Nat.le_of_eq g184.symm))) nin0) (ninS (Nat.ne_of_lt (Nat.lt_of_lt_of_le G182.lt' (Nat.le_of_eq g184.symm))) nin0))
    refine f_callS A191 at_47 (pc' := 50) rfl (wd hw 41 rfl) (wd hw 42 rfl) (wd hw 43 rfl) (wd hw 44 rfl) (by decide) pd9 [(.ref a175)] [] rfl rfl rfl 0 (Nat.le_of_eq rfl) (CN.pay (W := 0) A191 (m_of3 l Z a0 hw a175 t182 (fstK k0) (rstK k1) (rstK k2) zc O2 P5 fm O4 rG3 h191 n0 A191.old c193 (lc (lat_of (fst_rng r0)) (lc (lat_of (rst_rng r1)) (lc (lat_of (rst_rng r2)) ln))) (fst_lod r0) (rst_ok r1) (rst_ok r2)) (wd hw 44 rfl) (wd hw 43 rfl) (by decide) (by decide)) (kc := 1) (ks := 1) (by decide) (by decide) all0 (fun q => nomatch q) fun v194 T194 h194 L194 A194 K194 q194 => ?_
    have Q195 : Keep h0 h194 [] := Q192.trans K194 all0
    obtain ⟨b194, rfl, bg194, X194, F194⟩ := q194
    show Wp pG e below _ T194 (mkF m 50 _ [(.ref b194)])
    refine f_astore A194 at_50 (pc' := 52) rfl rfl (L' := #[.val (.int nn), .val (.int c0), .val (.int c1), .val (.int c2), .val (.int c3), .val (.int (3 : Int32)), .val (.ref a175), .val (.ref a184), .val (.ref b194), .unset]) rfl ?_
    refine f_aload A194 at_52 (pc' := 54) rfl rfl rfl ?_
    have c196 := (G191.keep K194 nin0 nin0)
    refine f_callS A194 at_54 (pc' := 57) rfl (wd hw 41 rfl) (wd hw 42 rfl) (wd hw 43 rfl) (wd hw 44 rfl) (by decide) pd9 [(.ref a184)] [] rfl rfl rfl 0 (Nat.le_of_eq rfl) (CN.pay (W := 0) A194 (m_of3 l Z a0 hw a184 t191 (fstK k0) (rstK k1) (rstK k2) zc O2 P5 fm O4 rG3 h194 n0 A194.old c196 (lc (lat_of (fst_rng r0)) (lc (lat_of (rst_rng r1)) (lc (lat_of (rst_rng r2)) ln))) (fst_lod r0) (rst_ok r1) (rst_ok r2)) (wd hw 44 rfl) (wd hw 43 rfl) (by decide) (by decide)) (kc := 1) (ks := 1) (by decide) (by decide) all0 (fun q => nomatch q) fun v197 T197 h197 L197 A197 K197 q197 => ?_
    have Q198 : Keep h0 h197 [] := Q195.trans K197 all0
    obtain ⟨b197, rfl, bg197, X197, F197⟩ := q197
    show Wp pG e below _ T197 (mkF m 57 _ [(.ref b197)])
    refine f_astore A197 at_57 (pc' := 59) rfl rfl (L' := #[.val (.int nn), .val (.int c0), .val (.int c1), .val (.int c2), .val (.int c3), .val (.int (3 : Int32)), .val (.ref a175), .val (.ref a184), .val (.ref b194), .val (.ref b197)]) rfl ?_
    refine f_aload A197 at_59 (pc' := 61) rfl rfl rfl ?_
    have c199 := (F194.keep K197 nin0)
    have c201 := (X194.keep K197)
    refine f_callV A197 (a := b194) at_61 (pc' := 64) rfl (wd hw 93 rfl) (wd hw 94 rfl) (nfS A197 (wd hw 96 rfl)) (wd hw 96 rfl) (wd hw 95 rfl) (by decide) c201 pd10 [] [] rfl rfl rfl 0 (Nat.le_of_eq rfl) (CN.pay (W := 0) A197 (m_toS l Z a0 hw b194 a175 h197 n0 A197.old c199) (wd hw 97 rfl) (wd hw 43 rfl) (by decide) (by decide)) (kc := 0) (ks := 0) (by decide) (by decide) all0 (fun q => nomatch q) fun v200 T200 h200 L200 A200 K200 q200 => ?_
    obtain ⟨rfl, hh200⟩ := q200
    obtain rfl := hh200.symm
    show Wp pG e below _ T200 (mkF m 64 _ [(.ref a175)])
    refine f_aload A200 at_64 (pc' := 66) rfl rfl rfl ?_
    have c202 := ((c193.keep K194 nin0 nin0).keep K197 nin0 nin0)
    have c204 := (((((G182.exa.ext E184).keep K186).keep K191).keep K194).keep K197)
    refine f_callV A200 (a := a175) at_66 (pc' := 69) rfl (wd hw 98 rfl) (wd hw 99 rfl) (nfS A200 (wd hw 101 rfl)) (wd hw 101 rfl) (wd hw 100 rfl) (by decide) c204 pd6 [(.ref a175)] [] rfl rfl rfl 0 (Nat.le_of_eq rfl) (payEq (W := 0) A200 hw (wd hw 1 rfl) c202 c202 O2 P5 (by decide) (by decide)) (kc := 0) (ks := 0) (by decide) (by decide) all0 (fun q => nomatch q) fun v203 T203 h203 L203 A203 K203 q203 => ?_
    obtain ⟨e203, hh203⟩ := q203
    obtain rfl := hh203.symm
    rw [if_pos (rfl)] at e203
    subst e203
    show Wp pG e below _ T203 (mkF m 69 _ [(.int (1 : Int32))])
    refine f_ifN A203 at_69 ((if0 _ _).trans (feq (by decide : ¬ (1 : Int32) = (0 : Int32))).1) (pc' := 72) rfl ?_
    refine f_aload A203 at_72 (pc' := 74) rfl rfl rfl ?_
    refine f_aload A203 at_74 (pc' := 76) rfl rfl rfl ?_
    have c205 := (c196.keep K197 nin0 nin0)
    refine f_callV A203 (a := b194) at_76 (pc' := 79) rfl (wd hw 103 rfl) (wd hw 104 rfl) (nfS A203 (wd hw 106 rfl)) (wd hw 106 rfl) (wd hw 105 rfl) (by decide) c201 pd6 [(.ref b197)] [] rfl rfl rfl 0 (Nat.le_of_eq rfl) (CN.pay (W := 0) A203 (m_eq l Z a0 hw b194 b197 a175 a184 t182 t191 [(fstK k0), (rstK k1), (rstK k2)] zc O2 P5 h197 n0 A203.old c201 X197 c199 F197 c202 c205) (wd hw 107 rfl) (wd hw 43 rfl) (by decide) (by decide)) (kc := 0) (ks := 0) (by decide) (by decide) all0 (fun q => nomatch q) fun v206 T206 h206 L206 A206 K206 q206 => ?_
    obtain ⟨rfl, hh206⟩ := q206
    obtain rfl := hh206.symm
    show Wp pG e below _ T206 (mkF m 79 _ [(.int (1 : Int32))])
    refine f_ifN A206 at_79 ((if0 _ _).trans (feq (by decide : ¬ (1 : Int32) = (0 : Int32))).1) (pc' := 82) rfl ?_
    refine f_iconst A206 at_82 (pc' := 83) rfl 1 rfl ?_
    refine f_goto A206 at_83 (pc' := 87) (by decide) (by decide) ?_
    exact f_retBN A206 hlk hret at_87 (by decide) (1 : Int32) (by decide) (by decide) (by decide) Q198 rfl
  · refine f_iconst A0 at_0 (pc' := 1) rfl 1 rfl ?_
    refine f_iloadN A0 at_1 (pc' := 2) rfl rfl ?_
    refine f_iconst A0 at_2 (pc' := 3) rfl 3 rfl ?_
    refine f_iand A0 at_3 (pc' := 4) rfl (3 : Int32) hb3 ?_
    refine f_iadd A0 at_4 (pc' := 5) rfl (4 : Int32) (by decide) ?_
    refine f_istore A0 at_5 (pc' := 7) rfl (L' := #[.val (.int nn), .val (.int c0), .val (.int c1), .val (.int c2), .val (.int c3), .val (.int (4 : Int32)), .unset, .unset, .unset, .unset]) rfl ?_
    refine f_new A0 at_7 (pc' := 10) rfl (wd hw 0 rfl) (wd hw 1 rfl) (wd hw 2 rfl) (by decide) (by decide) fun a207 T207 h207 g207 A207 E207 X207 D207 => ?_
    have z207 : n0 ≤ a207 := Nat.le_trans A0.sz (Nat.le_of_eq g207.symm)
    have y207 : h0.size ≤ a207 := Nat.le_trans K0.1 (Nat.le_of_eq g207.symm)
    have Q208 : Keep h0 h207 [] := K0.ext E207
    refine f_dup A207 at_10 (pc' := 11) rfl rfl ?_
    refine f_iload A207 at_11 (pc' := 13) rfl rfl ?_
    refine f_iloadN A207 at_13 (pc' := 14) rfl rfl ?_
    refine f_iloadN A207 at_14 (pc' := 15) rfl rfl ?_
    refine f_iloadN A207 at_15 (pc' := 16) rfl rfl ?_
    refine f_iload A207 at_16 (pc' := 18) rfl rfl ?_
    refine f_callS A207 at_18 (pc' := 21) rfl (wd hw 3 rfl) (wd hw 4 rfl) (wd hw 5 rfl) (wd hw 6 rfl) (by decide) pd7 [(.int (4 : Int32)), (.int c0), (.int c1), (.int c2), (.int c3)] [(.ref a207), (.ref a207)] rfl rfl rfl 2 (Nat.le_of_eq rfl) (CN.pay (W := 2) A207 (m_fill4 l Z a0 hw c0 c1 c2 c3 k0 k1 k2 k3 h207 n0 A207.old hk0 hk1 hk2 hk3 r0 r1 r2 r3) (wd hw 6 rfl) (wd hw 5 rfl) (by decide) (by decide)) (kc := 1) (ks := 4) (by decide) (by decide) all0 (fun q => nomatch q) fun v209 T209 h209 L209 A209 K209 q209 => ?_
    have Q210 : Keep h0 h209 [] := Q208.trans K209 all0
    obtain ⟨b209, kA209, rfl, bg209, V209⟩ := q209
    show Wp pG e below _ T209 (mkF m 21 _ [(.ref b209), (.ref a207), (.ref a207)])
    have c211 := (X207.keep K209)
    have c212 := ((show Fld Z h207 a207 "java/lang/String" "value" "[B" .null from D207 (Or.inr (wd hw 40 rfl)) (ty := (.array .byte)) (by decide)).keep K209 nin0)
    have c213 := ((show Fld Z h207 a207 "java/lang/String" "coder" "B" (.int (0 : Int32)) from D207 (Or.inr (wd hw 38 rfl)) (ty := .byte) (by decide)).keep K209 nin0)
    refine f_callI A209 (a := a207) at_21 (pc' := 24) rfl rfl (wd hw 15 rfl) (wd hw 16 rfl) (wd hw 17 rfl) (by decide) pd8 [(.ref b209)] [(.ref a207)] rfl rfl rfl 1 (Nat.le_of_eq rfl) (payNew (W := 1) A209 hw (wd hw 1 rfl) (cs := [(fstK k0), (rstK k1), (rstK k2), (rstK k3)]) 4 z207 c211 c212 c213 V209 O2 P5 rfl rfl (by decide) (by decide) (lc (lat_of (fst_rng r0)) (lc (lat_of (rst_rng r1)) (lc (lat_of (rst_rng r2)) (lc (lat_of (rst_rng r3)) ln)))) (by decide) (by decide)) (kc := 1) (ks := 4) (by decide) (by decide) (allS z207 all0) (fun q => nomatch q) fun v214 T214 h214 L214 A214 K214 q214 => ?_
    have Q215 : Keep h0 h214 [] := Q210.trans K214 (allS (Or.inr y207) all0)
    obtain ⟨rfl, t214, tz214, tg214, tn214, G214⟩ := q214
    show Wp pG e below _ T214 (mkF m 24 _ [(.ref a207)])
    refine f_astore A214 at_24 (pc' := 26) rfl rfl (L' := #[.val (.int nn), .val (.int c0), .val (.int c1), .val (.int c2), .val (.int c3), .val (.int (4 : Int32)), .val (.ref a207), .unset, .unset, .unset]) rfl ?_
    refine f_new A214 at_26 (pc' := 29) rfl (wd hw 0 rfl) (wd hw 1 rfl) (wd hw 2 rfl) (by decide) (by decide) fun a216 T216 h216 g216 A216 E216 X216 D216 => ?_
    have z216 : n0 ≤ a216 := Nat.le_trans A214.sz (Nat.le_of_eq g216.symm)
    have y216 : h0.size ≤ a216 := Nat.le_trans Q215.1 (Nat.le_of_eq g216.symm)
    have Q217 : Keep h0 h216 [] := Q215.ext E216
    refine f_dup A216 at_29 (pc' := 30) rfl rfl ?_
    refine f_iload A216 at_30 (pc' := 32) rfl rfl ?_
    refine f_iloadN A216 at_32 (pc' := 33) rfl rfl ?_
    refine f_iloadN A216 at_33 (pc' := 34) rfl rfl ?_
    refine f_iloadN A216 at_34 (pc' := 35) rfl rfl ?_
    refine f_iload A216 at_35 (pc' := 37) rfl rfl ?_
    refine f_callS A216 at_37 (pc' := 40) rfl (wd hw 3 rfl) (wd hw 4 rfl) (wd hw 5 rfl) (wd hw 6 rfl) (by decide) pd7 [(.int (4 : Int32)), (.int c0), (.int c1), (.int c2), (.int c3)] [(.ref a216), (.ref a216)] rfl rfl rfl 2 (Nat.le_of_eq rfl) (CN.pay (W := 2) A216 (m_fill4 l Z a0 hw c0 c1 c2 c3 k0 k1 k2 k3 h216 n0 A216.old hk0 hk1 hk2 hk3 r0 r1 r2 r3) (wd hw 6 rfl) (wd hw 5 rfl) (by decide) (by decide)) (kc := 1) (ks := 4) (by decide) (by decide) all0 (fun q => nomatch q) fun v218 T218 h218 L218 A218 K218 q218 => ?_
    have Q219 : Keep h0 h218 [] := Q217.trans K218 all0
    obtain ⟨b218, kA218, rfl, bg218, V218⟩ := q218
    show Wp pG e below _ T218 (mkF m 40 _ [(.ref b218), (.ref a216), (.ref a216)])
    have c220 := (X216.keep K218)
    have c221 := ((show Fld Z h216 a216 "java/lang/String" "value" "[B" .null from D216 (Or.inr (wd hw 40 rfl)) (ty := (.array .byte)) (by decide)).keep K218 nin0)
    have c222 := ((show Fld Z h216 a216 "java/lang/String" "coder" "B" (.int (0 : Int32)) from D216 (Or.inr (wd hw 38 rfl)) (ty := .byte) (by decide)).keep K218 nin0)
    refine f_callI A218 (a := a216) at_40 (pc' := 43) rfl rfl (wd hw 15 rfl) (wd hw 16 rfl) (wd hw 17 rfl) (by decide) pd8 [(.ref b218)] [(.ref a216)] rfl rfl rfl 1 (Nat.le_of_eq rfl) (payNew (W := 1) A218 hw (wd hw 1 rfl) (cs := [(fstK k0), (rstK k1), (rstK k2), (rstK k3)]) 4 z216 c220 c221 c222 V218 O2 P5 rfl rfl (by decide) (by decide) (lc (lat_of (fst_rng r0)) (lc (lat_of (rst_rng r1)) (lc (lat_of (rst_rng r2)) (lc (lat_of (rst_rng r3)) ln)))) (by decide) (by decide)) (kc := 1) (ks := 4) (by decide) (by decide) (allS z216 all0) (fun q => nomatch q) fun v223 T223 h223 L223 A223 K223 q223 => ?_
    have Q224 : Keep h0 h223 [] := Q219.trans K223 (allS (Or.inr y216) all0)
    obtain ⟨rfl, t223, tz223, tg223, tn223, G223⟩ := q223
    show Wp pG e below _ T223 (mkF m 43 _ [(.ref a216)])
    refine f_astore A223 at_43 (pc' := 45) rfl rfl (L' := #[.val (.int nn), .val (.int c0), .val (.int c1), .val (.int c2), .val (.int c3), .val (.int (4 : Int32)), .val (.ref a207), .val (.ref a216), .unset, .unset]) rfl ?_
    refine f_aload A223 at_45 (pc' := 47) rfl rfl rfl ?_
    have c225 := (((G214.ext E216).keep K218 nin0 nin0).keep K223 (ninS (Nat.ne_of_lt (Nat.lt_of_lt_of_le (Nat.lt_of_lt_of_le (Nat.lt_of_lt_of_le X207.lt K209.1) K214.1) (Nat.le_of_eq g216.symm))) nin0) (ninS (Nat.ne_of_lt (Nat.lt_of_lt_of_le G214.lt' (Nat.le_of_eq g216.symm))) nin0))
    refine f_callS A223 at_47 (pc' := 50) rfl (wd hw 41 rfl) (wd hw 42 rfl) (wd hw 43 rfl) (wd hw 44 rfl) (by decide) pd9 [(.ref a207)] [] rfl rfl rfl 0 (Nat.le_of_eq rfl) (CN.pay (W := 0) A223 (m_of4 l Z a0 hw a207 t214 (fstK k0) (rstK k1) (rstK k2) (rstK k3) zc O2 P5 fm O4 rG3 h223 n0 A223.old c225 (lc (lat_of (fst_rng r0)) (lc (lat_of (rst_rng r1)) (lc (lat_of (rst_rng r2)) (lc (lat_of (rst_rng r3)) ln)))) (fst_lod r0) (rst_ok r1) (rst_ok r2) (rst_ok r3)) (wd hw 44 rfl) (wd hw 43 rfl) (by decide) (by decide)) (kc := 1) (ks := 1) (by decide) (by decide) all0 (fun q => nomatch q) fun v226 T226 h226 L226 A226 K226 q226 => ?_
    have Q227 : Keep h0 h226 [] := Q224.trans K226 all0
    obtain ⟨b226, rfl, bg226, X226, F226⟩ := q226
    show Wp pG e below _ T226 (mkF m 50 _ [(.ref b226)])
    refine f_astore A226 at_50 (pc' := 52) rfl rfl (L' := #[.val (.int nn), .val (.int c0), .val (.int c1), .val (.int c2), .val (.int c3), .val (.int (4 : Int32)), .val (.ref a207), .val (.ref a216), .val (.ref b226), .unset]) rfl ?_
    refine f_aload A226 at_52 (pc' := 54) rfl rfl rfl ?_
    have c228 := (G223.keep K226 nin0 nin0)
    refine f_callS A226 at_54 (pc' := 57) rfl (wd hw 41 rfl) (wd hw 42 rfl) (wd hw 43 rfl) (wd hw 44 rfl) (by decide) pd9 [(.ref a216)] [] rfl rfl rfl 0 (Nat.le_of_eq rfl) (CN.pay (W := 0) A226 (m_of4 l Z a0 hw a216 t223 (fstK k0) (rstK k1) (rstK k2) (rstK k3) zc O2 P5 fm O4 rG3 h226 n0 A226.old c228 (lc (lat_of (fst_rng r0)) (lc (lat_of (rst_rng r1)) (lc (lat_of (rst_rng r2)) (lc (lat_of (rst_rng r3)) ln)))) (fst_lod r0) (rst_ok r1) (rst_ok r2) (rst_ok r3)) (wd hw 44 rfl) (wd hw 43 rfl) (by decide) (by decide)) (kc := 1) (ks := 1) (by decide) (by decide) all0 (fun q => nomatch q) fun v229 T229 h229 L229 A229 K229 q229 => ?_
    have Q230 : Keep h0 h229 [] := Q227.trans K229 all0
    obtain ⟨b229, rfl, bg229, X229, F229⟩ := q229
    show Wp pG e below _ T229 (mkF m 57 _ [(.ref b229)])
    refine f_astore A229 at_57 (pc' := 59) rfl rfl (L' := #[.val (.int nn), .val (.int c0), .val (.int c1), .val (.int c2), .val (.int c3), .val (.int (4 : Int32)), .val (.ref a207), .val (.ref a216), .val (.ref b226), .val (.ref b229)]) rfl ?_
    refine f_aload A229 at_59 (pc' := 61) rfl rfl rfl ?_
    have c231 := (F226.keep K229 nin0)
    have c233 := (X226.keep K229)
    refine f_callV A229 (a := b226) at_61 (pc' := 64) rfl (wd hw 93 rfl) (wd hw 94 rfl) (nfS A229 (wd hw 96 rfl)) (wd hw 96 rfl) (wd hw 95 rfl) (by decide) c233 pd10 [] [] rfl rfl rfl 0 (Nat.le_of_eq rfl) (CN.pay (W := 0) A229 (m_toS l Z a0 hw b226 a207 h229 n0 A229.old c231) (wd hw 97 rfl) (wd hw 43 rfl) (by decide) (by decide)) (kc := 0) (ks := 0) (by decide) (by decide) all0 (fun q => nomatch q) fun v232 T232 h232 L232 A232 K232 q232 => ?_
    obtain ⟨rfl, hh232⟩ := q232
    obtain rfl := hh232.symm
    show Wp pG e below _ T232 (mkF m 64 _ [(.ref a207)])
    refine f_aload A232 at_64 (pc' := 66) rfl rfl rfl ?_
    have c234 := ((c225.keep K226 nin0 nin0).keep K229 nin0 nin0)
    have c236 := (((((G214.exa.ext E216).keep K218).keep K223).keep K226).keep K229)
    refine f_callV A232 (a := a207) at_66 (pc' := 69) rfl (wd hw 98 rfl) (wd hw 99 rfl) (nfS A232 (wd hw 101 rfl)) (wd hw 101 rfl) (wd hw 100 rfl) (by decide) c236 pd6 [(.ref a207)] [] rfl rfl rfl 0 (Nat.le_of_eq rfl) (payEq (W := 0) A232 hw (wd hw 1 rfl) c234 c234 O2 P5 (by decide) (by decide)) (kc := 0) (ks := 0) (by decide) (by decide) all0 (fun q => nomatch q) fun v235 T235 h235 L235 A235 K235 q235 => ?_
    obtain ⟨e235, hh235⟩ := q235
    obtain rfl := hh235.symm
    rw [if_pos (rfl)] at e235
    subst e235
    show Wp pG e below _ T235 (mkF m 69 _ [(.int (1 : Int32))])
    refine f_ifN A235 at_69 ((if0 _ _).trans (feq (by decide : ¬ (1 : Int32) = (0 : Int32))).1) (pc' := 72) rfl ?_
    refine f_aload A235 at_72 (pc' := 74) rfl rfl rfl ?_
    refine f_aload A235 at_74 (pc' := 76) rfl rfl rfl ?_
    have c237 := (c228.keep K229 nin0 nin0)
    refine f_callV A235 (a := b226) at_76 (pc' := 79) rfl (wd hw 103 rfl) (wd hw 104 rfl) (nfS A235 (wd hw 106 rfl)) (wd hw 106 rfl) (wd hw 105 rfl) (by decide) c233 pd6 [(.ref b229)] [] rfl rfl rfl 0 (Nat.le_of_eq rfl) (CN.pay (W := 0) A235 (m_eq l Z a0 hw b226 b229 a207 a216 t214 t223 [(fstK k0), (rstK k1), (rstK k2), (rstK k3)] zc O2 P5 h229 n0 A235.old c233 X229 c231 F229 c234 c237) (wd hw 107 rfl) (wd hw 43 rfl) (by decide) (by decide)) (kc := 0) (ks := 0) (by decide) (by decide) all0 (fun q => nomatch q) fun v238 T238 h238 L238 A238 K238 q238 => ?_
    obtain ⟨rfl, hh238⟩ := q238
    obtain rfl := hh238.symm
    show Wp pG e below _ T238 (mkF m 79 _ [(.int (1 : Int32))])
    refine f_ifN A238 at_79 ((if0 _ _).trans (feq (by decide : ¬ (1 : Int32) = (0 : Int32))).1) (pc' := 82) rfl ?_
    refine f_iconst A238 at_82 (pc' := 83) rfl 1 rfl ?_
    refine f_goto A238 at_83 (pc' := 87) (by decide) (by decide) ?_
    exact f_retBN A238 hlk hret at_87 (by decide) (1 : Int32) (by decide) (by decide) (by decide) Q230 rfl
set_option maxRecDepth 65536 in
set_option maxHeartbeats 40000000 in
theorem comes_1 {Post : Tables → Env → Array Value → State → Outcome → State → Prop} (hpost : ∀ tb e args s v u, (limb_1_1.after args s (.returned v) u = true ∧ limb_1_2.after args s (.returned v) u = true ∧ True) → FrameEnd s (.returned v) u (Jvm.fieldLocs frame_1_writes args s ++ Jvm.arrayLocs frame_1_arrays args s ++ Jvm.staticLocs frame_1_statics s) 24 128 → Post tb e args s (.returned v) u) :
    ArmFor flags0 classFile x code maxLocals ret World_1 tables_1 room_1 Calls_1 rest_1 Pre_1 Post := by
  intro l hfl _ _ p e ha hc hk s m args below hf hA hF happ hP
  obtain ⟨hcalls, hrest, hpre⟩ := hP
  obtain ⟨-, -, -, hnamed, -, -, -, hat⟩ := (Spec.applies_iff hf).mp happ
  obtain ⟨hg, hn⟩ := and_e (Cond.before_iff.mp (show (Jvm.Cond.and given_1 narrow_1).before args s = true from hpre))
  obtain ⟨gc, g0⟩ := and_e hg
  obtain ⟨b0, g1⟩ := and_e g0
  obtain ⟨b1, g2⟩ := and_e g1
  obtain ⟨b2, g3⟩ := and_e g2
  obtain ⟨b3, g4⟩ := and_e g3
  obtain ⟨w0, w1, w2, w3, w4, rfl⟩ : ∃ w0 w1 w2 w3 w4 : Value, args = #[w0, w1, w2, w3, w4] := by
    have hs : args.size = 5 := by simpa [Cond.value, given_1] using gc
    obtain ⟨L⟩ := args
    match L, hs with
    | [w0, w1, w2, w3, w4], _ => exact ⟨w0, w1, w2, w3, w4, rfl⟩
  have hw := fun d (hd : d ∈ tables_1) => atoms_spec (ws := Jvm.Cond.code x code maxLocals ret :: tables_1) hat d (List.mem_cons_of_mem _ hd)
  obtain ⟨hsets, hown0⟩ := atoms_of _ (rest_1_c_eq ▸ (show rest_1_c.before _ s = true from hrest))
  obtain ⟨i0, ei0⟩ := is_v b0
  obtain rfl : w0 = (.int i0) := Option.some.inj ei0
  obtain ⟨i1, ei1⟩ := is_v b1
  obtain rfl : w1 = (.int i1) := Option.some.inj ei1
  obtain ⟨i2, ei2⟩ := is_v b2
  obtain rfl : w2 = (.int i2) := Option.some.inj ei2
  obtain ⟨i3, ei3⟩ := is_v b3
  obtain rfl : w3 = (.int i3) := Option.some.inj ei3
  obtain ⟨i4, ei4⟩ := is_v g4
  obtain rfl : w4 = (.int i4) := Option.some.inj ei4
  obtain ⟨zc, ezc⟩ := is_v (Cond.before_iff.mp (hsets _ (List.mem_of_getElem? (i := 1) rfl)))
  have O2 : Sta s s.heap "java/lang/String" "COMPACT_STRINGS" "Z" (.int zc) := Sta.start ezc (Or.inl (hsets _ (List.mem_of_getElem? (i := 0) rfl)))
  have P5 : ¬ zc = 0 := gotF (Cond.eq_ints ezc (Term.int_eval (0))) (not_v (Cond.before_iff.mp (hsets _ (List.mem_of_getElem? (i := 2) rfl))))
  obtain ⟨fm, efm, rG3⟩ := isR_v (Cond.before_iff.mp (hsets _ (List.mem_of_getElem? (i := 8) rfl)))
  have O4 : Sta s s.heap "jdk/internal/util/Preconditions" "SIOOBE_FORMATTER" "Ljava/util/function/BiFunction;" fm := Sta.start efm (Or.inl (hsets _ (List.mem_of_getElem? (i := 7) rfl)))
  obtain ⟨n, o, h1, h2, h3, v, L, rfl, ⟨N, -, hv⟩, hq⟩ := m_law l s _ hw tables_1 i0 i1 i2 i3 i4 zc O2 P5 fm O4 rG3 s.heap s.heap.size (Old.start s)  p e ha hc hk s m _ below hf ((Spec.applies_iff_loose hf).mp happ).1 ⟨rfl, State.Warmed39.refl s, rfl⟩ trivial
  obtain rfl := hv
  refine ⟨n, _, h1, h2, h3, hpost _ _ _ _ _ _ ⟨Cond.after_iff.mpr rfl, Cond.after_iff.mpr (eq_i res_at (Term.int_eval (1)) rfl), trivial⟩ ⟨hq.1, hq.2.1, (hq.2.2.sift fun y hy => Or.inr (N y hy)).mono (by decide) (by decide)⟩⟩
theorem main_1_1 : Claimed_1_1 := comes_1 fun _ _ _ _ _ _ h hF => ⟨h.1, hF⟩
theorem main_1_2 : Claimed_1_2 := comes_1 fun _ _ _ _ _ _ h hF => ⟨h.2.1, hF⟩
end Jvm.Pilot.@@N@@
namespace Jvm.Pilot.@@N@@
open Jvm Jvm.ClassFile Sem Op Lib Jvm.Free Jvm.Stand Jvm.Pilot.@@N@@.Jvm.D
/-! MADE BY PROGRAM (witnessworld.py) out of the Statement's table words and the real class files: 20 classes; the members and pool entries that the words name. The judged class is class 1, her method 5. -/
namespace start1
open Jvm.ClassFile
def u (s : String) : CpInfo := .utf8 (stringToUtf16 s)
/-- a pool by its gaps: so many unusable entries, then the entry; so many at the end -/
def gap : Nat → List CpInfo → List CpInfo
  | 0, r => r
  | n + 1, r => .unusable :: gap n r
def poolList (es : List (Nat × CpInfo)) (last : Nat) : List CpInfo := es.foldr (fun e r => gap e.1 (e.2 :: r)) (gap last [])
def pool (es : List (Nat × CpInfo)) (last : Nat) : Array CpInfo := ⟨poolList es last⟩
def fileOf (pool : Array CpInfo) (this : Nat) (attrs : Array Attribute := #[]) (ms : Array MethodInfo := #[]) (fl : Nat := 33) (sup : Nat := 0) (ifs : Array Nat := #[]) (fds : Array FieldInfo := #[]) : ClassFile where
  minorVersion := 0
  majorVersion := 65
  constantPool := pool
  accessFlags := fl
  thisClass := this
  superClass := sup
  interfaces := ifs
  fields := fds
  methods := ms
  attributes := attrs
def plain (name : String) (sup : Option ClassId) : Class where
  name := name
  kind := .ordinary
  loader := none
  accessFlags := 33
  super := sup
  interfaces := #[]
  cf := none
  fields := #[]
  methods := #[]
  instanceTypes := #[]
  staticTypes := #[]
  resolved := #[]
  callSites := []
  init := .initialized
  statics := none
  mirror := none

def pool0 : Array CpInfo := pool [(5, u "<init>"), (0, u "()V"), (1, .class_ 10), (1, u "java/lang/Object")] 113

def k0c0 : Code := { maxStack := 0, maxLocals := 1, code := object_method_1_code, exceptionTable := #[], attributes := #[] }
def k0m0 : Method := { name := "<init>", desc := "()V", sig := { parameters := [], returnType := none }, accessFlags := 1, code := some k0c0 }
/-- java/lang/Object -/
def k0 : Class := { plain "java/lang/Object" none with
  accessFlags := 33
  interfaces := #[]
  cf := some (fileOf pool0 8 #[] #[{ accessFlags := 1, nameIndex := 5, descriptorIndex := 6, attributes := #[] }] 33 0 #[] #[])
  fields := #[]
  methods := #[k0m0]
  instanceTypes := #[]
  staticTypes := #[]
  resolved := Array.replicate 124 none
  statics := none }

def pool1 : Array CpInfo := pool [(2, .class_ 4), (1, u "java/lang/Object"), (0, u "<init>"), (0, u "()V"), (0, .integer 2147483647), (0, .methodref 9 10), (0, .class_ 11), (0, .nameAndType 12 13), (0, u "com/example/await_in_turn/awaitinturn/LockNameOfPinLaw"), (0, u "first"), (0, u "(I)C"), (0, .methodref 9 15), (0, .nameAndType 16 17), (0, u "make"), (0, u "(I)[C"), (0, .methodref 9 19), (0, .nameAndType 20 13), (0, u "rest"), (0, .class_ 22), (0, u "java/lang/String"), (0, .methodref 9 24), (0, .nameAndType 25 26), (0, u "fill"), (0, u "(IIIII)[C"), (0, .methodref 21 28), (0, .nameAndType 5 29), (0, u "([C)V"), (0, .methodref 31 32), (0, .class_ 33), (0, .nameAndType 34 35), (0, u "com/example/await_in_turn/awaitinturn/LockName"), (0, u "of"), (0, u "(Ljava/lang/String;)Lcom/example/await_in_turn/awaitinturn/LockName;"), (0, .methodref 31 37), (0, .nameAndType 38 39), (0, u "toString"), (0, u "()Ljava/lang/String;"), (0, .methodref 21 41), (0, .nameAndType 42 43), (0, u "equals"), (0, u "(Ljava/lang/Object;)Z"), (0, .methodref 31 41), (5, u "law"), (0, u "(IIIII)Z")] 2

def k1m0 : Method := { name := "<init>", desc := "()V", sig := { parameters := [], returnType := none }, accessFlags := 2, code := none }
def k1c1 : Code := { maxStack := 3, maxLocals := 2, code := method_2_code, exceptionTable := #[], attributes := #[] }
def k1m1 : Method := { name := "first", desc := "(I)C", sig := { parameters := [.int], returnType := some .char }, accessFlags := 10, code := some k1c1 }
def k1c2 : Code := { maxStack := 2, maxLocals := 2, code := method_3_code, exceptionTable := #[], attributes := #[] }
def k1m2 : Method := { name := "rest", desc := "(I)C", sig := { parameters := [.int], returnType := some .char }, accessFlags := 10, code := some k1c2 }
def k1c3 : Code := { maxStack := 2, maxLocals := 1, code := method_4_code, exceptionTable := #[], attributes := #[] }
def k1m3 : Method := { name := "make", desc := "(I)[C", sig := { parameters := [.int], returnType := some (.array .char) }, accessFlags := 10, code := some k1c3 }
def k1c4 : Code := { maxStack := 3, maxLocals := 6, code := method_5_code, exceptionTable := #[], attributes := #[] }
def k1m4 : Method := { name := "fill", desc := "(IIIII)[C", sig := { parameters := [.int, .int, .int, .int, .int], returnType := some (.array .char) }, accessFlags := 10, code := some k1c4 }
def k1c5 : Code := { maxStack := 7, maxLocals := 10, code := code, exceptionTable := #[], attributes := #[] }
def k1m5 : Method := { name := "law", desc := "(IIIII)Z", sig := { parameters := [.int, .int, .int, .int, .int], returnType := some .boolean }, accessFlags := 9, code := some k1c5 }
/-- com/example/await_in_turn/awaitinturn/LockNameOfPinLaw -/
def k1 : Class := { plain "com/example/await_in_turn/awaitinturn/LockNameOfPinLaw" (some 0) with
  accessFlags := 49
  interfaces := #[]
  cf := some (fileOf pool1 9 #[] #[{ accessFlags := 2, nameIndex := 5, descriptorIndex := 6, attributes := #[] }, { accessFlags := 10, nameIndex := 12, descriptorIndex := 13, attributes := #[] }, { accessFlags := 10, nameIndex := 20, descriptorIndex := 13, attributes := #[] }, { accessFlags := 10, nameIndex := 16, descriptorIndex := 17, attributes := #[] }, { accessFlags := 10, nameIndex := 25, descriptorIndex := 26, attributes := #[] }, { accessFlags := 9, nameIndex := 50, descriptorIndex := 51, attributes := #[] }] 49 2 #[] #[])
  fields := #[]
  methods := #[k1m0, k1m1, k1m2, k1m3, k1m4, k1m5]
  instanceTypes := #[]
  staticTypes := #[]
  resolved := Array.replicate 54 none
  statics := none }

def pool2 : Array CpInfo := pool [(1, .class_ 2), (0, u "java/io/Serializable"), (0, .class_ 4), (0, u "java/lang/Object")] 2

/-- java/io/Serializable -/
def k2 : Class := { plain "java/io/Serializable" (some 0) with
  accessFlags := 1537
  interfaces := #[]
  cf := some (fileOf pool2 1 #[] #[] 1537 3 #[] #[])
  fields := #[]
  methods := #[]
  instanceTypes := #[]
  staticTypes := #[]
  resolved := Array.replicate 7 none
  statics := none }

def pool3 : Array CpInfo := pool [(1, .class_ 2), (0, u "java/lang/Comparable"), (0, .class_ 4), (0, u "java/lang/Object")] 7

/-- java/lang/Comparable -/
def k3 : Class := { plain "java/lang/Comparable" (some 0) with
  accessFlags := 1537
  interfaces := #[]
  cf := some (fileOf pool3 1 #[] #[] 1537 3 #[] #[])
  fields := #[]
  methods := #[]
  instanceTypes := #[]
  staticTypes := #[]
  resolved := Array.replicate 12 none
  statics := none }

def pool4 : Array CpInfo := pool [(2, .class_ 4), (1, u "java/lang/CharSequence"), (42, .class_ 48), (0, u "java/lang/CharSequence$1CodePointIterator"), (10, .class_ 60), (0, u "java/lang/CharSequence$1CharIterator"), (5, .class_ 67), (0, u "java/lang/Object")] 63

/-- java/lang/CharSequence -/
def k4 : Class := { plain "java/lang/CharSequence" (some 0) with
  accessFlags := 1537
  interfaces := #[]
  cf := some (fileOf pool4 2 #[.nestMembers #[47, 59]] #[] 1537 66 #[] #[])
  fields := #[]
  methods := #[]
  instanceTypes := #[]
  staticTypes := #[]
  resolved := Array.replicate 131 none
  statics := none }

def pool5 : Array CpInfo := pool [(1, .class_ 2), (0, u "java/lang/constant/Constable"), (0, .class_ 4), (0, u "java/lang/Object")] 6

/-- java/lang/constant/Constable -/
def k5 : Class := { plain "java/lang/constant/Constable" (some 0) with
  accessFlags := 1537
  interfaces := #[]
  cf := some (fileOf pool5 1 #[] #[] 1537 3 #[] #[])
  fields := #[]
  methods := #[]
  instanceTypes := #[]
  staticTypes := #[]
  resolved := Array.replicate 11 none
  statics := none }

def pool6 : Array CpInfo := pool [(1, .class_ 2), (0, u "java/lang/constant/ConstantDesc"), (0, .class_ 4), (0, u "java/lang/Object")] 32

/-- java/lang/constant/ConstantDesc -/
def k6 : Class := { plain "java/lang/constant/ConstantDesc" (some 0) with
  accessFlags := 1537
  interfaces := #[]
  cf := some (fileOf pool6 1 #[] #[] 1537 3 #[] #[])
  fields := #[]
  methods := #[]
  instanceTypes := #[]
  staticTypes := #[]
  resolved := Array.replicate 37 none
  statics := none }

def pool7 : Array CpInfo := pool [(1, .methodref 2 3), (0, .class_ 4), (0, .nameAndType 5 6), (0, u "java/lang/Object"), (0, u "<init>"), (0, u "()V"), (2, .fieldref 10 11), (0, .class_ 12), (0, .nameAndType 13 14), (0, u "java/lang/String"), (0, u "value"), (0, u "[B"), (0, .fieldref 10 16), (0, .nameAndType 17 18), (0, u "coder"), (0, u "B"), (2, u "hash"), (0, u "I"), (2, u "hashIsZero"), (0, u "Z"), (0, .methodref 10 28), (0, .nameAndType 5 29), (0, u "([CIILjava/lang/Void;)V"), (8, .fieldref 10 39), (0, .nameAndType 40 26), (0, u "COMPACT_STRINGS"), (1, .class_ 44), (1, u "java/lang/StringUTF16"), (0, u "compress"), (1, .methodref 42 48), (0, .nameAndType 49 50), (0, u "coderFromArrayLen"), (0, u "([BI)B"), (56, .class_ 109), (1, u "java/lang/StringLatin1"), (32, u "()Z"), (34, .methodref 42 178), (0, .nameAndType 45 179), (0, u "([CII)[B"), (154, u "()I"), (0, .methodref 10 336), (0, .nameAndType 17 337), (0, u "()B"), (25, u "([BI)C"), (27, u "(II)V"), (35, u "(I)C"), (64, .methodref 10 493), (0, .nameAndType 494 142), (0, u "isLatin1"), (0, .methodref 107 496), (0, .nameAndType 497 363), (0, u "charAt"), (3, u "checkIndex"), (5, u "length"), (33, .methodref 107 542), (0, .nameAndType 543 544), (0, u "equals"), (0, u "([B[B)Z"), (28, u "(Ljava/lang/Object;)Z"), (1, .class_ 576), (0, u "java/lang/CharSequence"), (22, u "CASE_INSENSITIVE_ORDER"), (0, u "Ljava/util/Comparator;"), (91, u "isEmpty"), (317, u "([C)V"), (42, .fieldref 1054 1055), (0, .class_ 1056), (0, .nameAndType 1057 1058), (0, u "jdk/internal/util/Preconditions"), (0, u "SIOOBE_FORMATTER"), (0, u "Ljava/util/function/BiFunction;"), (0, .methodref 1054 1060), (0, .nameAndType 501 1061), (0, u "(IILjava/util/function/BiFunction;)I"), (39, u "serialPersistentFields"), (0, u "[Ljava/io/ObjectStreamField;"), (0, .class_ 1104), (0, u "java/lang/String$CaseInsensitiveComparator"), (1, .class_ 1107), (0, u "java/io/Serializable"), (0, .class_ 1109), (0, u "java/lang/Comparable"), (0, .class_ 1111), (0, u "java/lang/constant/Constable"), (0, .class_ 1113), (0, u "java/lang/constant/ConstantDesc"), (2, u "serialVersionUID"), (0, u "J"), (3, u "REPL"), (0, u "C"), (2, u "LATIN1"), (1, u "UTF16")] 323

def k7m0 : Method := { name := "<init>", desc := "()V", sig := { parameters := [], returnType := none }, accessFlags := 1, code := none }
def k7c1 : Code := { maxStack := 5, maxLocals := 2, code := jdk_42_method_3_code, exceptionTable := #[], attributes := #[] }
def k7m1 : Method := { name := "<init>", desc := "([C)V", sig := { parameters := [(.array .char)], returnType := none }, accessFlags := 1, code := some k7c1 }
def k7c2 : Code := { maxStack := 2, maxLocals := 1, code := jdk_42_method_54_code, exceptionTable := #[], attributes := #[] }
def k7m2 : Method := { name := "length", desc := "()I", sig := { parameters := [], returnType := some .int }, accessFlags := 1, code := some k7c2 }
def k7c3 : Code := { maxStack := 1, maxLocals := 1, code := jdk_42_method_55_code, exceptionTable := #[], attributes := #[] }
def k7m3 : Method := { name := "isEmpty", desc := "()Z", sig := { parameters := [], returnType := some .boolean }, accessFlags := 1, code := some k7c3 }
def k7c4 : Code := { maxStack := 2, maxLocals := 2, code := jdk_42_method_56_code, exceptionTable := #[], attributes := #[] }
def k7m4 : Method := { name := "charAt", desc := "(I)C", sig := { parameters := [.int], returnType := some .char }, accessFlags := 1, code := some k7c4 }
def k7c5 : Code := { maxStack := 2, maxLocals := 3, code := jdk_42_method_66_code, exceptionTable := #[], attributes := #[] }
def k7m5 : Method := { name := "equals", desc := "(Ljava/lang/Object;)Z", sig := { parameters := [(.object "java/lang/Object")], returnType := some .boolean }, accessFlags := 1, code := some k7c5 }
def k7c6 : Code := { maxStack := 4, maxLocals := 6, code := jdk_42_method_149_code, exceptionTable := #[], attributes := #[] }
def k7m6 : Method := { name := "<init>", desc := "([CIILjava/lang/Void;)V", sig := { parameters := [(.array .char), .int, .int, (.object "java/lang/Void")], returnType := none }, accessFlags := 2, code := some k7c6 }
def k7c7 : Code := { maxStack := 1, maxLocals := 1, code := jdk_42_method_152_code, exceptionTable := #[], attributes := #[] }
def k7m7 : Method := { name := "coder", desc := "()B", sig := { parameters := [], returnType := some .byte }, accessFlags := 0, code := some k7c7 }
def k7c8 : Code := { maxStack := 1, maxLocals := 1, code := jdk_42_method_154_code, exceptionTable := #[], attributes := #[] }
def k7m8 : Method := { name := "isLatin1", desc := "()Z", sig := { parameters := [], returnType := some .boolean }, accessFlags := 0, code := some k7c8 }
def k7c9 : Code := { maxStack := 3, maxLocals := 2, code := jdk_42_method_155_code, exceptionTable := #[], attributes := #[] }
def k7m9 : Method := { name := "checkIndex", desc := "(II)V", sig := { parameters := [.int, .int], returnType := none }, accessFlags := 8, code := some k7c9 }
/-- java/lang/String -/
def k7 : Class := { plain "java/lang/String" (some 0) with
  accessFlags := 49
  interfaces := #[2, 3, 4, 5, 6]
  cf := some (fileOf pool7 10 #[.nestMembers #[1103]] #[{ accessFlags := 1, nameIndex := 5, descriptorIndex := 6, attributes := #[] }, { accessFlags := 1, nameIndex := 5, descriptorIndex := 1010, attributes := #[] }, { accessFlags := 1, nameIndex := 507, descriptorIndex := 334, attributes := #[] }, { accessFlags := 1, nameIndex := 692, descriptorIndex := 142, attributes := #[] }, { accessFlags := 1, nameIndex := 497, descriptorIndex := 427, attributes := #[] }, { accessFlags := 1, nameIndex := 543, descriptorIndex := 573, attributes := #[] }, { accessFlags := 2, nameIndex := 5, descriptorIndex := 29, attributes := #[] }, { accessFlags := 0, nameIndex := 17, descriptorIndex := 337, attributes := #[] }, { accessFlags := 0, nameIndex := 494, descriptorIndex := 142, attributes := #[] }, { accessFlags := 8, nameIndex := 501, descriptorIndex := 391, attributes := #[] }] 49 2 #[1106, 1108, 575, 1110, 1112] #[{ accessFlags := 18, nameIndex := 13, descriptorIndex := 14, attributes := #[] }, { accessFlags := 18, nameIndex := 17, descriptorIndex := 18, attributes := #[] }, { accessFlags := 2, nameIndex := 21, descriptorIndex := 22, attributes := #[] }, { accessFlags := 2, nameIndex := 25, descriptorIndex := 26, attributes := #[] }, { accessFlags := 26, nameIndex := 1116, descriptorIndex := 1117, attributes := #[] }, { accessFlags := 24, nameIndex := 40, descriptorIndex := 26, attributes := #[] }, { accessFlags := 26, nameIndex := 1101, descriptorIndex := 1102, attributes := #[] }, { accessFlags := 26, nameIndex := 1121, descriptorIndex := 1122, attributes := #[] }, { accessFlags := 25, nameIndex := 599, descriptorIndex := 600, attributes := #[] }, { accessFlags := 24, nameIndex := 1125, descriptorIndex := 18, attributes := #[] }, { accessFlags := 24, nameIndex := 1127, descriptorIndex := 18, attributes := #[] }])
  fields := #[{ name := "value", type := (.array .byte), accessFlags := 18, slot := 0, constantValue := 0 }, { name := "coder", type := .byte, accessFlags := 18, slot := 1, constantValue := 0 }, { name := "hash", type := .int, accessFlags := 2, slot := 2, constantValue := 0 }, { name := "hashIsZero", type := .boolean, accessFlags := 2, slot := 3, constantValue := 0 }, { name := "serialVersionUID", type := .long, accessFlags := 26, slot := 0, constantValue := 0 }, { name := "COMPACT_STRINGS", type := .boolean, accessFlags := 24, slot := 1, constantValue := 0 }, { name := "serialPersistentFields", type := (.array (.object "java/io/ObjectStreamField")), accessFlags := 26, slot := 2, constantValue := 0 }, { name := "REPL", type := .char, accessFlags := 26, slot := 3, constantValue := 0 }, { name := "CASE_INSENSITIVE_ORDER", type := (.object "java/util/Comparator"), accessFlags := 25, slot := 4, constantValue := 0 }, { name := "LATIN1", type := .byte, accessFlags := 24, slot := 5, constantValue := 0 }, { name := "UTF16", type := .byte, accessFlags := 24, slot := 6, constantValue := 0 }]
  methods := #[k7m0, k7m1, k7m2, k7m3, k7m4, k7m5, k7m6, k7m7, k7m8, k7m9]
  instanceTypes := #[(.array .byte), .byte, .int, .boolean]
  staticTypes := #[.long, .boolean, (.array (.object "java/io/ObjectStreamField")), .char, (.object "java/util/Comparator"), .byte, .byte]
  resolved := Array.replicate 1451 none
  statics := some 0 }

def pool8 : Array CpInfo := pool [(6, .class_ 8), (1, u "java/lang/Object"), (0, u "<init>"), (0, u "()V"), (1, .class_ 14), (1, u "java/lang/StringUTF16"), (31, u "$assertionsDisabled"), (0, u "Z"), (13, u "HI_BYTE_SHIFT"), (0, u "I"), (2, u "LO_BYTE_SHIFT"), (49, .methodref 12 116), (0, .nameAndType 117 118), (0, u "compress"), (0, u "([CI[BII)I"), (3, u "([CII)[B"), (138, u "coderFromArrayLen"), (0, u "([BI)B"), (106, .class_ 371), (1, u "java/lang/StringUTF16$LinesSpliterator"), (58, u "MAX_LENGTH"), (196, .class_ 628), (0, u "java/lang/StringUTF16$CodePointsSpliterator"), (0, .class_ 630), (0, u "java/lang/StringUTF16$CharsSpliterator")] 4

def k8m0 : Method := { name := "<init>", desc := "()V", sig := { parameters := [], returnType := none }, accessFlags := 0, code := none }
def k8c1 : Code := { maxStack := 2, maxLocals := 2, code := jdk_52_method_15_code, exceptionTable := #[], attributes := #[] }
def k8m1 : Method := { name := "coderFromArrayLen", desc := "([BI)B", sig := { parameters := [(.array .byte), .int], returnType := some .byte }, accessFlags := 8, code := some k8c1 }
def k8c2 : Code := { maxStack := 5, maxLocals := 6, code := jdk_52_method_16_code, exceptionTable := #[], attributes := #[] }
def k8m2 : Method := { name := "compress", desc := "([CII)[B", sig := { parameters := [(.array .char), .int, .int], returnType := some (.array .byte) }, accessFlags := 9, code := some k8c2 }
def k8c3 : Code := { maxStack := 3, maxLocals := 7, code := jdk_52_method_21_code, exceptionTable := #[], attributes := #[] }
def k8m3 : Method := { name := "compress", desc := "([CI[BII)I", sig := { parameters := [(.array .char), .int, (.array .byte), .int, .int], returnType := some .int }, accessFlags := 9, code := some k8c3 }
/-- java/lang/StringUTF16 -/
def k8 : Class := { plain "java/lang/StringUTF16" (some 0) with
  accessFlags := 48
  interfaces := #[]
  cf := some (fileOf pool8 12 #[.nestMembers #[627, 629, 369]] #[{ accessFlags := 0, nameIndex := 9, descriptorIndex := 10, attributes := #[] }, { accessFlags := 8, nameIndex := 261, descriptorIndex := 262, attributes := #[] }, { accessFlags := 9, nameIndex := 117, descriptorIndex := 122, attributes := #[] }, { accessFlags := 9, nameIndex := 117, descriptorIndex := 118, attributes := #[] }] 48 6 #[] #[{ accessFlags := 26, nameIndex := 61, descriptorIndex := 62, attributes := #[] }, { accessFlags := 26, nameIndex := 65, descriptorIndex := 62, attributes := #[] }, { accessFlags := 24, nameIndex := 430, descriptorIndex := 62, attributes := #[] }, { accessFlags := 4120, nameIndex := 46, descriptorIndex := 47, attributes := #[] }])
  fields := #[{ name := "HI_BYTE_SHIFT", type := .int, accessFlags := 26, slot := 0, constantValue := 0 }, { name := "LO_BYTE_SHIFT", type := .int, accessFlags := 26, slot := 1, constantValue := 0 }, { name := "MAX_LENGTH", type := .int, accessFlags := 24, slot := 2, constantValue := 0 }, { name := "$assertionsDisabled", type := .boolean, accessFlags := 4120, slot := 3, constantValue := 0 }]
  methods := #[k8m0, k8m1, k8m2, k8m3]
  instanceTypes := #[]
  staticTypes := #[.int, .int, .int, .boolean]
  resolved := Array.replicate 635 none
  statics := none }

def pool9 : Array CpInfo := pool [(1, .methodref 2 3), (0, .class_ 4), (0, .nameAndType 5 6), (0, u "java/lang/Object"), (0, u "<init>"), (0, u "()V"), (0, .fieldref 8 9), (0, .class_ 10), (0, .nameAndType 11 12), (0, u "com/example/await_in_turn/awaitinturn/LockName"), (0, u "name"), (0, u "Ljava/lang/String;"), (5, .nameAndType 5 19), (0, u "(Ljava/lang/String;)V"), (0, .methodref 21 22), (0, .class_ 23), (0, .nameAndType 24 25), (0, u "java/lang/String"), (0, u "isEmpty"), (0, u "()Z"), (6, .methodref 21 33), (0, .nameAndType 34 35), (0, u "charAt"), (0, u "(I)C"), (0, .methodref 8 37), (0, .nameAndType 38 39), (0, u "isLetterOrDigit"), (0, u "(C)Z"), (8, .methodref 21 49), (0, .nameAndType 50 51), (0, u "length"), (0, u "()I"), (6, .methodref 8 18), (27, .methodref 21 87), (0, .nameAndType 88 89), (0, u "equals"), (0, u "(Ljava/lang/Object;)Z"), (3, u "MAX_LENGTH"), (0, u "I"), (4, u "of"), (0, u "(Ljava/lang/String;)Lcom/example/await_in_turn/awaitinturn/LockName;"), (1, u "toString"), (0, u "()Ljava/lang/String;")] 23

def k9c0 : Code := { maxStack := 2, maxLocals := 2, code := prog_4_method_1_code, exceptionTable := #[], attributes := #[] }
def k9m0 : Method := { name := "<init>", desc := "(Ljava/lang/String;)V", sig := { parameters := [(.object "java/lang/String")], returnType := none }, accessFlags := 2, code := some k9c0 }
def k9c1 : Code := { maxStack := 4, maxLocals := 3, code := prog_4_method_2_code, exceptionTable := #[], attributes := #[] }
def k9m1 : Method := { name := "of", desc := "(Ljava/lang/String;)Lcom/example/await_in_turn/awaitinturn/LockName;", sig := { parameters := [(.object "java/lang/String")], returnType := some (.object "com/example/await_in_turn/awaitinturn/LockName") }, accessFlags := 9, code := some k9c1 }
def k9c2 : Code := { maxStack := 2, maxLocals := 1, code := prog_4_method_3_code, exceptionTable := #[], attributes := #[] }
def k9m2 : Method := { name := "isLetterOrDigit", desc := "(C)Z", sig := { parameters := [.char], returnType := some .boolean }, accessFlags := 10, code := some k9c2 }
def k9c3 : Code := { maxStack := 1, maxLocals := 1, code := prog_4_method_6_code, exceptionTable := #[], attributes := #[] }
def k9m3 : Method := { name := "toString", desc := "()Ljava/lang/String;", sig := { parameters := [], returnType := some (.object "java/lang/String") }, accessFlags := 1, code := some k9c3 }
def k9c4 : Code := { maxStack := 2, maxLocals := 3, code := prog_4_method_7_code, exceptionTable := #[], attributes := #[] }
def k9m4 : Method := { name := "equals", desc := "(Ljava/lang/Object;)Z", sig := { parameters := [(.object "java/lang/Object")], returnType := some .boolean }, accessFlags := 1, code := some k9c4 }
/-- com/example/await_in_turn/awaitinturn/LockName -/
def k9 : Class := { plain "com/example/await_in_turn/awaitinturn/LockName" (some 0) with
  accessFlags := 49
  interfaces := #[]
  cf := some (fileOf pool9 8 #[] #[{ accessFlags := 2, nameIndex := 5, descriptorIndex := 19, attributes := #[] }, { accessFlags := 9, nameIndex := 99, descriptorIndex := 100, attributes := #[] }, { accessFlags := 10, nameIndex := 38, descriptorIndex := 39, attributes := #[] }, { accessFlags := 1, nameIndex := 102, descriptorIndex := 103, attributes := #[] }, { accessFlags := 1, nameIndex := 88, descriptorIndex := 89, attributes := #[] }] 49 2 #[] #[{ accessFlags := 26, nameIndex := 93, descriptorIndex := 94, attributes := #[] }, { accessFlags := 18, nameIndex := 11, descriptorIndex := 12, attributes := #[] }])
  fields := #[{ name := "MAX_LENGTH", type := .int, accessFlags := 26, slot := 0, constantValue := 0 }, { name := "name", type := (.object "java/lang/String"), accessFlags := 18, slot := 0, constantValue := 0 }]
  methods := #[k9m0, k9m1, k9m2, k9m3, k9m4]
  instanceTypes := #[(.object "java/lang/String")]
  staticTypes := #[.int]
  resolved := Array.replicate 127 none
  statics := none }

def pool10 : Array CpInfo := pool [(1, .class_ 2), (0, u "java/lang/String"), (1, .class_ 6), (1, u "java/lang/Object"), (0, u "<init>"), (0, u "()V"), (0, .methodref 1 10), (0, .nameAndType 11 12), (0, u "checkIndex"), (0, u "(II)V"), (1, .class_ 16), (1, u "java/lang/StringLatin1"), (36, u "([BI)C"), (67, u "$assertionsDisabled"), (0, u "Z"), (98, .class_ 223), (1, u "java/lang/StringLatin1$LinesSpliterator"), (28, u "charAt"), (28, u "equals"), (0, u "([B[B)Z"), (107, .class_ 391), (0, u "java/lang/StringLatin1$CharsSpliterator")] 3

def k10m0 : Method := { name := "<init>", desc := "()V", sig := { parameters := [], returnType := none }, accessFlags := 0, code := none }
def k10c1 : Code := { maxStack := 2, maxLocals := 2, code := jdk_43_method_2_code, exceptionTable := #[], attributes := #[] }
def k10m1 : Method := { name := "charAt", desc := "([BI)C", sig := { parameters := [(.array .byte), .int], returnType := some .char }, accessFlags := 9, code := some k10c1 }
def k10c2 : Code := { maxStack := 3, maxLocals := 3, code := jdk_43_method_13_code, exceptionTable := #[], attributes := #[] }
def k10m2 : Method := { name := "equals", desc := "([B[B)Z", sig := { parameters := [(.array .byte), (.array .byte)], returnType := some .boolean }, accessFlags := 9, code := some k10c2 }
/-- java/lang/StringLatin1 -/
def k10 : Class := { plain "java/lang/StringLatin1" (some 0) with
  accessFlags := 48
  interfaces := #[]
  cf := some (fileOf pool10 14 #[.nestMembers #[390, 221]] #[{ accessFlags := 0, nameIndex := 7, descriptorIndex := 8, attributes := #[] }, { accessFlags := 9, nameIndex := 252, descriptorIndex := 53, attributes := #[] }, { accessFlags := 9, nameIndex := 281, descriptorIndex := 282, attributes := #[] }] 48 4 #[] #[{ accessFlags := 4120, nameIndex := 121, descriptorIndex := 122, attributes := #[] }])
  fields := #[{ name := "$assertionsDisabled", type := .boolean, accessFlags := 4120, slot := 0, constantValue := 0 }]
  methods := #[k10m0, k10m1, k10m2]
  instanceTypes := #[]
  staticTypes := #[.boolean]
  resolved := Array.replicate 395 none
  statics := none }

def pool11 : Array CpInfo := pool [(2, .class_ 4), (1, u "java/lang/Object"), (0, u "<init>"), (0, u "()V"), (17, .class_ 26), (1, u "jdk/internal/util/Preconditions"), (6, u "checkIndex"), (21, .class_ 56), (0, u "jdk/internal/util/Preconditions$4"), (57, .class_ 115), (0, u "jdk/internal/util/Preconditions$1"), (7, u "SIOOBE_FORMATTER"), (0, u "Ljava/util/function/BiFunction;"), (0, .class_ 126), (0, u "jdk/internal/util/Preconditions$2"), (3, u "AIOOBE_FORMATTER"), (0, .class_ 132), (0, u "jdk/internal/util/Preconditions$3"), (3, u "IOOBE_FORMATTER"), (41, u "(IILjava/util/function/BiFunction;)I")] 15

def k11m0 : Method := { name := "<init>", desc := "()V", sig := { parameters := [], returnType := none }, accessFlags := 1, code := none }
def k11c1 : Code := { maxStack := 3, maxLocals := 3, code := jdk_41_method_11_code, exceptionTable := #[], attributes := #[] }
def k11m1 : Method := { name := "checkIndex", desc := "(IILjava/util/function/BiFunction;)I", sig := { parameters := [.int, .int, (.object "java/util/function/BiFunction")], returnType := some .int }, accessFlags := 9, code := some k11c1 }
/-- jdk/internal/util/Preconditions -/
def k11 : Class := { plain "jdk/internal/util/Preconditions" (some 0) with
  accessFlags := 33
  interfaces := #[]
  cf := some (fileOf pool11 24 #[.nestMembers #[55, 131, 125, 114]] #[{ accessFlags := 1, nameIndex := 5, descriptorIndex := 6, attributes := #[] }, { accessFlags := 9, nameIndex := 33, descriptorIndex := 178, attributes := #[] }] 33 2 #[] #[{ accessFlags := 25, nameIndex := 123, descriptorIndex := 124, attributes := #[] }, { accessFlags := 25, nameIndex := 130, descriptorIndex := 124, attributes := #[] }, { accessFlags := 25, nameIndex := 136, descriptorIndex := 124, attributes := #[] }])
  fields := #[{ name := "SIOOBE_FORMATTER", type := (.object "java/util/function/BiFunction"), accessFlags := 25, slot := 0, constantValue := 0 }, { name := "AIOOBE_FORMATTER", type := (.object "java/util/function/BiFunction"), accessFlags := 25, slot := 1, constantValue := 0 }, { name := "IOOBE_FORMATTER", type := (.object "java/util/function/BiFunction"), accessFlags := 25, slot := 2, constantValue := 0 }]
  methods := #[k11m0, k11m1]
  instanceTypes := #[]
  staticTypes := #[(.object "java/util/function/BiFunction"), (.object "java/util/function/BiFunction"), (.object "java/util/function/BiFunction")]
  resolved := Array.replicate 194 none
  statics := some 1 }

def pool12 : Array CpInfo := pool [(9, u "<init>"), (6, .class_ 18), (1, u "java/lang/Object"), (0, u "()V"), (1, .class_ 23), (1, u "jdk/internal/util/ArraysSupport"), (0, u "LOG2_ARRAY_LONG_INDEX_SCALE"), (0, u "I"), (2, u "U"), (0, u "Ljdk/internal/misc/Unsafe;"), (8, u "BIG_ENDIAN"), (0, u "Z"), (8, u "LOG2_BYTE_BIT_SIZE"), (4, u "LOG2_ARRAY_INT_INDEX_SCALE"), (54, u "JLA"), (0, u "Ljdk/internal/access/JavaLangAccess;"), (11, u "LOG2_ARRAY_BOOLEAN_INDEX_SCALE"), (9, u "LOG2_ARRAY_BYTE_INDEX_SCALE"), (5, u "LOG2_ARRAY_CHAR_INDEX_SCALE"), (5, u "LOG2_ARRAY_SHORT_INDEX_SCALE"), (18, u "LOG2_ARRAY_FLOAT_INDEX_SCALE"), (24, u "LOG2_ARRAY_DOUBLE_INDEX_SCALE"), (89, u "T_BOOLEAN"), (2, u "T_CHAR"), (1, u "T_FLOAT"), (1, u "T_DOUBLE"), (1, u "T_BYTE"), (1, u "T_SHORT"), (1, u "T_INT"), (1, u "T_LONG"), (1, u "SOFT_MAX_ARRAY_LENGTH")] 83

def k12m0 : Method := { name := "<init>", desc := "()V", sig := { parameters := [], returnType := none }, accessFlags := 2, code := none }
/-- jdk/internal/util/ArraysSupport -/
def k12 : Class := { plain "jdk/internal/util/ArraysSupport" (some 0) with
  accessFlags := 33
  interfaces := #[]
  cf := some (fileOf pool12 21 #[] #[{ accessFlags := 2, nameIndex := 9, descriptorIndex := 19, attributes := #[] }] 33 16 #[] #[{ accessFlags := 24, nameIndex := 28, descriptorIndex := 29, attributes := #[] }, { accessFlags := 26, nameIndex := 38, descriptorIndex := 39, attributes := #[] }, { accessFlags := 25, nameIndex := 121, descriptorIndex := 25, attributes := #[] }, { accessFlags := 25, nameIndex := 131, descriptorIndex := 25, attributes := #[] }, { accessFlags := 25, nameIndex := 137, descriptorIndex := 25, attributes := #[] }, { accessFlags := 25, nameIndex := 143, descriptorIndex := 25, attributes := #[] }, { accessFlags := 25, nameIndex := 53, descriptorIndex := 25, attributes := #[] }, { accessFlags := 25, nameIndex := 24, descriptorIndex := 25, attributes := #[] }, { accessFlags := 25, nameIndex := 162, descriptorIndex := 25, attributes := #[] }, { accessFlags := 25, nameIndex := 187, descriptorIndex := 25, attributes := #[] }, { accessFlags := 26, nameIndex := 48, descriptorIndex := 25, attributes := #[] }, { accessFlags := 25, nameIndex := 277, descriptorIndex := 25, attributes := #[] }, { accessFlags := 25, nameIndex := 280, descriptorIndex := 25, attributes := #[] }, { accessFlags := 25, nameIndex := 282, descriptorIndex := 25, attributes := #[] }, { accessFlags := 25, nameIndex := 284, descriptorIndex := 25, attributes := #[] }, { accessFlags := 25, nameIndex := 286, descriptorIndex := 25, attributes := #[] }, { accessFlags := 25, nameIndex := 288, descriptorIndex := 25, attributes := #[] }, { accessFlags := 25, nameIndex := 290, descriptorIndex := 25, attributes := #[] }, { accessFlags := 25, nameIndex := 292, descriptorIndex := 25, attributes := #[] }, { accessFlags := 26, nameIndex := 108, descriptorIndex := 109, attributes := #[] }, { accessFlags := 25, nameIndex := 294, descriptorIndex := 25, attributes := #[] }])
  fields := #[{ name := "U", type := (.object "jdk/internal/misc/Unsafe"), accessFlags := 24, slot := 0, constantValue := 0 }, { name := "BIG_ENDIAN", type := .boolean, accessFlags := 26, slot := 1, constantValue := 0 }, { name := "LOG2_ARRAY_BOOLEAN_INDEX_SCALE", type := .int, accessFlags := 25, slot := 2, constantValue := 0 }, { name := "LOG2_ARRAY_BYTE_INDEX_SCALE", type := .int, accessFlags := 25, slot := 3, constantValue := 0 }, { name := "LOG2_ARRAY_CHAR_INDEX_SCALE", type := .int, accessFlags := 25, slot := 4, constantValue := 0 }, { name := "LOG2_ARRAY_SHORT_INDEX_SCALE", type := .int, accessFlags := 25, slot := 5, constantValue := 0 }, { name := "LOG2_ARRAY_INT_INDEX_SCALE", type := .int, accessFlags := 25, slot := 6, constantValue := 0 }, { name := "LOG2_ARRAY_LONG_INDEX_SCALE", type := .int, accessFlags := 25, slot := 7, constantValue := 0 }, { name := "LOG2_ARRAY_FLOAT_INDEX_SCALE", type := .int, accessFlags := 25, slot := 8, constantValue := 0 }, { name := "LOG2_ARRAY_DOUBLE_INDEX_SCALE", type := .int, accessFlags := 25, slot := 9, constantValue := 0 }, { name := "LOG2_BYTE_BIT_SIZE", type := .int, accessFlags := 26, slot := 10, constantValue := 0 }, { name := "T_BOOLEAN", type := .int, accessFlags := 25, slot := 11, constantValue := 0 }, { name := "T_CHAR", type := .int, accessFlags := 25, slot := 12, constantValue := 0 }, { name := "T_FLOAT", type := .int, accessFlags := 25, slot := 13, constantValue := 0 }, { name := "T_DOUBLE", type := .int, accessFlags := 25, slot := 14, constantValue := 0 }, { name := "T_BYTE", type := .int, accessFlags := 25, slot := 15, constantValue := 0 }, { name := "T_SHORT", type := .int, accessFlags := 25, slot := 16, constantValue := 0 }, { name := "T_INT", type := .int, accessFlags := 25, slot := 17, constantValue := 0 }, { name := "T_LONG", type := .int, accessFlags := 25, slot := 18, constantValue := 0 }, { name := "JLA", type := (.object "jdk/internal/access/JavaLangAccess"), accessFlags := 26, slot := 19, constantValue := 0 }, { name := "SOFT_MAX_ARRAY_LENGTH", type := .int, accessFlags := 25, slot := 20, constantValue := 0 }]
  methods := #[k12m0]
  instanceTypes := #[]
  staticTypes := #[(.object "jdk/internal/misc/Unsafe"), .boolean, .int, .int, .int, .int, .int, .int, .int, .int, .int, .int, .int, .int, .int, .int, .int, .int, .int, (.object "jdk/internal/access/JavaLangAccess"), .int]
  resolved := Array.replicate 378 none
  statics := none }

def pool13 : Array CpInfo := pool [(1, u "java/lang/Cloneable"), (0, .class_ 1), (0, u "java/lang/Object"), (0, .class_ 3)] 3

/-- java/lang/Cloneable -/
def k13 : Class := { plain "java/lang/Cloneable" (some 0) with
  accessFlags := 1537
  interfaces := #[]
  cf := some (fileOf pool13 2 #[] #[] 1537 4 #[] #[])
  fields := #[]
  methods := #[]
  instanceTypes := #[]
  staticTypes := #[]
  resolved := Array.replicate 8 none
  statics := none }

/-- the primitive byte -/
def k14 : Class := { plain "byte" none with kind := .primitive 'B', accessFlags := 0x411 }
/-- [B -/
def k15 : Class := { plain "[B" (some 0) with kind := .array 14 .byte, interfaces := #[13, 2], accessFlags := 1041 }

/-- the primitive char -/
def k16 : Class := { plain "char" none with kind := .primitive 'C', accessFlags := 0x411 }
/-- [C -/
def k17 : Class := { plain "[C" (some 0) with kind := .array 16 .char, interfaces := #[13, 2], accessFlags := 1041 }

/-- the primitive int -/
def k18 : Class := { plain "int" none with kind := .primitive 'I', accessFlags := 0x411 }
/-- [I -/
def k19 : Class := { plain "[I" (some 0) with kind := .array 18 .int, interfaces := #[13, 2], accessFlags := 1041 }

def heap : Heap := #[{ cls := 7, slots := #[.long 0, .int 1, .null, .int 0, .null, .int 0, .int 0], vm := .statics 7 },
  { cls := 11, slots := #[.null, .null, .null], vm := .statics 11 }]
def classes : Array Class := #[k0, k1, k2, k3, k4, k5, k6, k7, k8, k9, k10, k11, k12, k13, k14, k15, k16, k17, k18, k19]
def interned : List (Array UInt16 × Addr) := []
def slotsUsed : Nat := 10
def theMethod : MethodId := ⟨1, 5⟩
def args0 : Array Value := #[.int 5, .int 5, .int 5, .int 5, .int 5]
def aboutOver (below : List Frame) : State where
  vm := { classes := classes, interned := interned.toArray }
  heap := heap
  slotsUsed := slotsUsed
  threads := #[{ frames := .invoking theMethod args0 :: below }]
def below0 : List Frame := [.native { method := ⟨0, 0⟩, args := #[] }]
def about1 : State := aboutOver below0
def p0 : Program := .bare "" "" ""
def e0 : Env := launch0.env 0 0 0
theorem w_frames : about1.frames = Frame.invoking theMethod args0 :: below0 := rfl
set_option maxRecDepth 65536 in
theorem w_args : argsFit about1.vm theMethod args0 = true := by decide +kernel
set_option maxRecDepth 65536 in
theorem w_heap : heapFits about1 = true := by decide +kernel
set_option maxRecDepth 65536 in
theorem w_runnable : about1.curStatus? = some .runnable := by decide +kernel
set_option maxRecDepth 65536 in
theorem w_alone : about1.alone = true := by decide +kernel
set_option maxRecDepth 65536 in
theorem w_named : about1.methodNamed? x = some theMethod := by decide +kernel
set_option maxRecDepth 65536 in
theorem w_hears : about1.hears theMethod below0 = true := by decide +kernel
set_option maxRecDepth 65536 in
theorem w_ripe : about1.ripe theMethod args0 below0 = true := by decide +kernel
theorem w_running : about1.status = .running := rfl
set_option maxRecDepth 65536 in
theorem w_room : about1.hasRoom e0.platform room_1 = true :=
  launch0.hasRoom_least _ room_1 (by decide +kernel) (by decide +kernel) (by decide +kernel) (by decide +kernel) (by decide +kernel) (by decide +kernel)
theorem allAtoms_all (ts : List Jvm.Cond) (a : Array Jvm.Value) (st : Jvm.State) : (allAtoms ts).before a st = ts.all (fun c => c.before a st) := by
  induction ts with
  | nil => rfl
  | cons c t ih =>
    show (Jvm.Cond.and c (allAtoms t)).before a st = _
    rw [Jvm.Cond.before_and, ih, List.all_cons]
def words1 : List Jvm.Cond := Jvm.Cond.code x code maxLocals ret :: tables_1
/-- a 'code' word, met by the world's own term for the bytes: nothing is compared byte by byte -/
theorem code_word {y : MethodName} {bytes : ByteArray} {mx : Nat} {rt : Option FieldType} {a : Array Value} {s : State} {m : MethodId} {meth : Method} {c : Code} (h1 : s.methodNamed? y = some m) (h2 : s.vm.method? m = some meth) (h3 : meth.code = some c) (h4 : c.code = bytes)
    (h5 : (c.maxLocals == mx && c.exceptionTable.isEmpty && decide (c.maxStack ≤ mostOperands) && decide (meth.sig.returnType = rt) && !meth.locks && decide (parseMethodDescriptor y.desc = some meth.sig)) = true) : (Jvm.Cond.code y bytes mx rt).before a s = true := by
  simp only [Bool.and_eq_true, beq_iff_eq, Bool.not_eq_true', decide_eq_true_eq] at h5
  obtain ⟨⟨⟨⟨⟨g1, g2⟩, g3⟩, g4⟩, g5⟩, g6⟩ := h5
  simp [Cond.before, Cond.holds, Cond.value, h1, h2, h3, h4, g1, g2, g3, g4, g5, g6]
def isCode : Jvm.Cond → Bool
  | .code _ _ _ _ => true
  | _ => false
theorem all_split {L : List Jvm.Cond} {P : Jvm.Cond → Bool} (h1 : L.all (fun c => isCode c || P c) = true) (h2 : ∀ c ∈ L.filter isCode, P c = true) : L.all P = true := by
  refine List.all_eq_true.mpr fun c hc => ?_
  have h := List.all_eq_true.mp h1 c hc
  rcases Bool.eq_false_or_eq_true (isCode c) with hi | hi
  · exact h2 c (List.mem_filter.mpr ⟨hc, hi⟩)
  · simpa [hi] using h
set_option maxRecDepth 65536 in
theorem w_c0 : (Jvm.Cond.code x code maxLocals ret).before args0 about1 = true := code_word (m := ⟨1, 5⟩) (meth := k1m5) (c := k1c5) (by decide +kernel) rfl rfl rfl (by decide +kernel)
set_option maxRecDepth 65536 in
theorem w_c1 : (Jvm.Cond.code ({ cls := "com/example/await_in_turn/awaitinturn/LockNameOfPinLaw", name := "fill", desc := "(IIIII)[C" } : Jvm.MethodName) method_5_code (6 : Nat) (Option.some (Jvm.ClassFile.FieldType.array Jvm.ClassFile.FieldType.char))).before args0 about1 = true := code_word (m := ⟨1, 4⟩) (meth := k1m4) (c := k1c4) (by decide +kernel) rfl rfl rfl (by decide +kernel)
set_option maxRecDepth 65536 in
theorem w_c2 : (Jvm.Cond.code ({ cls := "com/example/await_in_turn/awaitinturn/LockNameOfPinLaw", name := "make", desc := "(I)[C" } : Jvm.MethodName) method_4_code (1 : Nat) (Option.some (Jvm.ClassFile.FieldType.array Jvm.ClassFile.FieldType.char))).before args0 about1 = true := code_word (m := ⟨1, 3⟩) (meth := k1m3) (c := k1c3) (by decide +kernel) rfl rfl rfl (by decide +kernel)
set_option maxRecDepth 65536 in
theorem w_c3 : (Jvm.Cond.code ({ cls := "com/example/await_in_turn/awaitinturn/LockNameOfPinLaw", name := "first", desc := "(I)C" } : Jvm.MethodName) method_2_code (2 : Nat) (Option.some Jvm.ClassFile.FieldType.char)).before args0 about1 = true := code_word (m := ⟨1, 1⟩) (meth := k1m1) (c := k1c1) (by decide +kernel) rfl rfl rfl (by decide +kernel)
set_option maxRecDepth 65536 in
theorem w_c4 : (Jvm.Cond.code ({ cls := "java/lang/String", name := "<init>", desc := "([C)V" } : Jvm.MethodName) jdk_42_method_3_code (2 : Nat) (Option.none : Option Jvm.ClassFile.FieldType)).before args0 about1 = true := code_word (m := ⟨7, 1⟩) (meth := k7m1) (c := k7c1) (by decide +kernel) rfl rfl rfl (by decide +kernel)
set_option maxRecDepth 65536 in
theorem w_c5 : (Jvm.Cond.code ({ cls := "java/lang/String", name := "<init>", desc := "([CIILjava/lang/Void;)V" } : Jvm.MethodName) jdk_42_method_149_code (6 : Nat) (Option.none : Option Jvm.ClassFile.FieldType)).before args0 about1 = true := code_word (m := ⟨7, 6⟩) (meth := k7m6) (c := k7c6) (by decide +kernel) rfl rfl rfl (by decide +kernel)
set_option maxRecDepth 65536 in
theorem w_c6 : (Jvm.Cond.code ({ cls := "java/lang/Object", name := "<init>", desc := "()V" } : Jvm.MethodName) object_method_1_code (1 : Nat) (Option.none : Option Jvm.ClassFile.FieldType)).before args0 about1 = true := code_word (m := ⟨0, 0⟩) (meth := k0m0) (c := k0c0) (by decide +kernel) rfl rfl rfl (by decide +kernel)
set_option maxRecDepth 65536 in
theorem w_c7 : (Jvm.Cond.code ({ cls := "java/lang/StringUTF16", name := "compress", desc := "([CII)[B" } : Jvm.MethodName) jdk_52_method_16_code (6 : Nat) (Option.some (Jvm.ClassFile.FieldType.array Jvm.ClassFile.FieldType.byte))).before args0 about1 = true := code_word (m := ⟨8, 2⟩) (meth := k8m2) (c := k8c2) (by decide +kernel) rfl rfl rfl (by decide +kernel)
set_option maxRecDepth 65536 in
theorem w_c8 : (Jvm.Cond.code ({ cls := "java/lang/StringUTF16", name := "compress", desc := "([CI[BII)I" } : Jvm.MethodName) jdk_52_method_21_code (7 : Nat) (Option.some Jvm.ClassFile.FieldType.int)).before args0 about1 = true := code_word (m := ⟨8, 3⟩) (meth := k8m3) (c := k8c3) (by decide +kernel) rfl rfl rfl (by decide +kernel)
set_option maxRecDepth 65536 in
theorem w_c9 : (Jvm.Cond.code ({ cls := "java/lang/StringUTF16", name := "coderFromArrayLen", desc := "([BI)B" } : Jvm.MethodName) jdk_52_method_15_code (2 : Nat) (Option.some Jvm.ClassFile.FieldType.byte)).before args0 about1 = true := code_word (m := ⟨8, 1⟩) (meth := k8m1) (c := k8c1) (by decide +kernel) rfl rfl rfl (by decide +kernel)
set_option maxRecDepth 65536 in
theorem w_c10 : (Jvm.Cond.code ({ cls := "com/example/await_in_turn/awaitinturn/LockName", name := "of", desc := "(Ljava/lang/String;)Lcom/example/await_in_turn/awaitinturn/LockName;" } : Jvm.MethodName) prog_4_method_2_code (3 : Nat) (Option.some (Jvm.ClassFile.FieldType.object "com/example/await_in_turn/awaitinturn/LockName"))).before args0 about1 = true := code_word (m := ⟨9, 1⟩) (meth := k9m1) (c := k9c1) (by decide +kernel) rfl rfl rfl (by decide +kernel)
set_option maxRecDepth 65536 in
theorem w_c11 : (Jvm.Cond.code ({ cls := "java/lang/String", name := "isEmpty", desc := "()Z" } : Jvm.MethodName) jdk_42_method_55_code (1 : Nat) (Option.some Jvm.ClassFile.FieldType.boolean)).before args0 about1 = true := code_word (m := ⟨7, 3⟩) (meth := k7m3) (c := k7c3) (by decide +kernel) rfl rfl rfl (by decide +kernel)
set_option maxRecDepth 65536 in
theorem w_c12 : (Jvm.Cond.code ({ cls := "java/lang/String", name := "charAt", desc := "(I)C" } : Jvm.MethodName) jdk_42_method_56_code (2 : Nat) (Option.some Jvm.ClassFile.FieldType.char)).before args0 about1 = true := code_word (m := ⟨7, 4⟩) (meth := k7m4) (c := k7c4) (by decide +kernel) rfl rfl rfl (by decide +kernel)
set_option maxRecDepth 65536 in
theorem w_c13 : (Jvm.Cond.code ({ cls := "java/lang/String", name := "isLatin1", desc := "()Z" } : Jvm.MethodName) jdk_42_method_154_code (1 : Nat) (Option.some Jvm.ClassFile.FieldType.boolean)).before args0 about1 = true := code_word (m := ⟨7, 8⟩) (meth := k7m8) (c := k7c8) (by decide +kernel) rfl rfl rfl (by decide +kernel)
set_option maxRecDepth 65536 in
theorem w_c14 : (Jvm.Cond.code ({ cls := "java/lang/StringLatin1", name := "charAt", desc := "([BI)C" } : Jvm.MethodName) jdk_43_method_2_code (2 : Nat) (Option.some Jvm.ClassFile.FieldType.char)).before args0 about1 = true := code_word (m := ⟨10, 1⟩) (meth := k10m1) (c := k10c1) (by decide +kernel) rfl rfl rfl (by decide +kernel)
set_option maxRecDepth 65536 in
theorem w_c15 : (Jvm.Cond.code ({ cls := "java/lang/String", name := "checkIndex", desc := "(II)V" } : Jvm.MethodName) jdk_42_method_155_code (2 : Nat) (Option.none : Option Jvm.ClassFile.FieldType)).before args0 about1 = true := code_word (m := ⟨7, 9⟩) (meth := k7m9) (c := k7c9) (by decide +kernel) rfl rfl rfl (by decide +kernel)
set_option maxRecDepth 65536 in
theorem w_c16 : (Jvm.Cond.code ({ cls := "jdk/internal/util/Preconditions", name := "checkIndex", desc := "(IILjava/util/function/BiFunction;)I" } : Jvm.MethodName) jdk_41_method_11_code (3 : Nat) (Option.some Jvm.ClassFile.FieldType.int)).before args0 about1 = true := code_word (m := ⟨11, 1⟩) (meth := k11m1) (c := k11c1) (by decide +kernel) rfl rfl rfl (by decide +kernel)
set_option maxRecDepth 65536 in
theorem w_c17 : (Jvm.Cond.code ({ cls := "com/example/await_in_turn/awaitinturn/LockName", name := "isLetterOrDigit", desc := "(C)Z" } : Jvm.MethodName) prog_4_method_3_code (1 : Nat) (Option.some Jvm.ClassFile.FieldType.boolean)).before args0 about1 = true := code_word (m := ⟨9, 2⟩) (meth := k9m2) (c := k9c2) (by decide +kernel) rfl rfl rfl (by decide +kernel)
set_option maxRecDepth 65536 in
theorem w_c18 : (Jvm.Cond.code ({ cls := "java/lang/String", name := "length", desc := "()I" } : Jvm.MethodName) jdk_42_method_54_code (1 : Nat) (Option.some Jvm.ClassFile.FieldType.int)).before args0 about1 = true := code_word (m := ⟨7, 2⟩) (meth := k7m2) (c := k7c2) (by decide +kernel) rfl rfl rfl (by decide +kernel)
set_option maxRecDepth 65536 in
theorem w_c19 : (Jvm.Cond.code ({ cls := "java/lang/String", name := "coder", desc := "()B" } : Jvm.MethodName) jdk_42_method_152_code (1 : Nat) (Option.some Jvm.ClassFile.FieldType.byte)).before args0 about1 = true := code_word (m := ⟨7, 7⟩) (meth := k7m7) (c := k7c7) (by decide +kernel) rfl rfl rfl (by decide +kernel)
set_option maxRecDepth 65536 in
theorem w_c20 : (Jvm.Cond.code ({ cls := "com/example/await_in_turn/awaitinturn/LockName", name := "<init>", desc := "(Ljava/lang/String;)V" } : Jvm.MethodName) prog_4_method_1_code (2 : Nat) (Option.none : Option Jvm.ClassFile.FieldType)).before args0 about1 = true := code_word (m := ⟨9, 0⟩) (meth := k9m0) (c := k9c0) (by decide +kernel) rfl rfl rfl (by decide +kernel)
set_option maxRecDepth 65536 in
theorem w_c21 : (Jvm.Cond.code ({ cls := "com/example/await_in_turn/awaitinturn/LockName", name := "toString", desc := "()Ljava/lang/String;" } : Jvm.MethodName) prog_4_method_6_code (1 : Nat) (Option.some (Jvm.ClassFile.FieldType.object "java/lang/String"))).before args0 about1 = true := code_word (m := ⟨9, 3⟩) (meth := k9m3) (c := k9c3) (by decide +kernel) rfl rfl rfl (by decide +kernel)
set_option maxRecDepth 65536 in
theorem w_c22 : (Jvm.Cond.code ({ cls := "java/lang/String", name := "equals", desc := "(Ljava/lang/Object;)Z" } : Jvm.MethodName) jdk_42_method_66_code (3 : Nat) (Option.some Jvm.ClassFile.FieldType.boolean)).before args0 about1 = true := code_word (m := ⟨7, 5⟩) (meth := k7m5) (c := k7c5) (by decide +kernel) rfl rfl rfl (by decide +kernel)
set_option maxRecDepth 65536 in
theorem w_c23 : (Jvm.Cond.code ({ cls := "com/example/await_in_turn/awaitinturn/LockName", name := "equals", desc := "(Ljava/lang/Object;)Z" } : Jvm.MethodName) prog_4_method_7_code (3 : Nat) (Option.some Jvm.ClassFile.FieldType.boolean)).before args0 about1 = true := code_word (m := ⟨9, 4⟩) (meth := k9m4) (c := k9c4) (by decide +kernel) rfl rfl rfl (by decide +kernel)
set_option maxRecDepth 65536 in
theorem w_c24 : (Jvm.Cond.code ({ cls := "java/lang/StringLatin1", name := "equals", desc := "([B[B)Z" } : Jvm.MethodName) jdk_43_method_13_code (3 : Nat) (Option.some Jvm.ClassFile.FieldType.boolean)).before args0 about1 = true := code_word (m := ⟨10, 2⟩) (meth := k10m2) (c := k10c2) (by decide +kernel) rfl rfl rfl (by decide +kernel)
set_option maxRecDepth 65536 in
theorem w_c25 : (Jvm.Cond.code ({ cls := "com/example/await_in_turn/awaitinturn/LockNameOfPinLaw", name := "rest", desc := "(I)C" } : Jvm.MethodName) method_3_code (2 : Nat) (Option.some Jvm.ClassFile.FieldType.char)).before args0 about1 = true := code_word (m := ⟨1, 2⟩) (meth := k1m2) (c := k1c2) (by decide +kernel) rfl rfl rfl (by decide +kernel)
def codes1 : List Jvm.Cond := [Jvm.Cond.code x code maxLocals ret, Jvm.Cond.code ({ cls := "com/example/await_in_turn/awaitinturn/LockNameOfPinLaw", name := "fill", desc := "(IIIII)[C" } : Jvm.MethodName) method_5_code (6 : Nat) (Option.some (Jvm.ClassFile.FieldType.array Jvm.ClassFile.FieldType.char)), Jvm.Cond.code ({ cls := "com/example/await_in_turn/awaitinturn/LockNameOfPinLaw", name := "make", desc := "(I)[C" } : Jvm.MethodName) method_4_code (1 : Nat) (Option.some (Jvm.ClassFile.FieldType.array Jvm.ClassFile.FieldType.char)), Jvm.Cond.code ({ cls := "com/example/await_in_turn/awaitinturn/LockNameOfPinLaw", name := "first", desc := "(I)C" } : Jvm.MethodName) method_2_code (2 : Nat) (Option.some Jvm.ClassFile.FieldType.char), Jvm.Cond.code ({ cls := "java/lang/String", name := "<init>", desc := "([C)V" } : Jvm.MethodName) jdk_42_method_3_code (2 : Nat) (Option.none : Option Jvm.ClassFile.FieldType), Jvm.Cond.code ({ cls := "java/lang/String", name := "<init>", desc := "([CIILjava/lang/Void;)V" } : Jvm.MethodName) jdk_42_method_149_code (6 : Nat) (Option.none : Option Jvm.ClassFile.FieldType), Jvm.Cond.code ({ cls := "java/lang/Object", name := "<init>", desc := "()V" } : Jvm.MethodName) object_method_1_code (1 : Nat) (Option.none : Option Jvm.ClassFile.FieldType), Jvm.Cond.code ({ cls := "java/lang/StringUTF16", name := "compress", desc := "([CII)[B" } : Jvm.MethodName) jdk_52_method_16_code (6 : Nat) (Option.some (Jvm.ClassFile.FieldType.array Jvm.ClassFile.FieldType.byte)), Jvm.Cond.code ({ cls := "java/lang/StringUTF16", name := "compress", desc := "([CI[BII)I" } : Jvm.MethodName) jdk_52_method_21_code (7 : Nat) (Option.some Jvm.ClassFile.FieldType.int), Jvm.Cond.code ({ cls := "java/lang/StringUTF16", name := "coderFromArrayLen", desc := "([BI)B" } : Jvm.MethodName) jdk_52_method_15_code (2 : Nat) (Option.some Jvm.ClassFile.FieldType.byte), Jvm.Cond.code ({ cls := "com/example/await_in_turn/awaitinturn/LockName", name := "of", desc := "(Ljava/lang/String;)Lcom/example/await_in_turn/awaitinturn/LockName;" } : Jvm.MethodName) prog_4_method_2_code (3 : Nat) (Option.some (Jvm.ClassFile.FieldType.object "com/example/await_in_turn/awaitinturn/LockName")), Jvm.Cond.code ({ cls := "java/lang/String", name := "isEmpty", desc := "()Z" } : Jvm.MethodName) jdk_42_method_55_code (1 : Nat) (Option.some Jvm.ClassFile.FieldType.boolean), Jvm.Cond.code ({ cls := "java/lang/String", name := "charAt", desc := "(I)C" } : Jvm.MethodName) jdk_42_method_56_code (2 : Nat) (Option.some Jvm.ClassFile.FieldType.char), Jvm.Cond.code ({ cls := "java/lang/String", name := "isLatin1", desc := "()Z" } : Jvm.MethodName) jdk_42_method_154_code (1 : Nat) (Option.some Jvm.ClassFile.FieldType.boolean), Jvm.Cond.code ({ cls := "java/lang/StringLatin1", name := "charAt", desc := "([BI)C" } : Jvm.MethodName) jdk_43_method_2_code (2 : Nat) (Option.some Jvm.ClassFile.FieldType.char), Jvm.Cond.code ({ cls := "java/lang/String", name := "checkIndex", desc := "(II)V" } : Jvm.MethodName) jdk_42_method_155_code (2 : Nat) (Option.none : Option Jvm.ClassFile.FieldType), Jvm.Cond.code ({ cls := "jdk/internal/util/Preconditions", name := "checkIndex", desc := "(IILjava/util/function/BiFunction;)I" } : Jvm.MethodName) jdk_41_method_11_code (3 : Nat) (Option.some Jvm.ClassFile.FieldType.int), Jvm.Cond.code ({ cls := "com/example/await_in_turn/awaitinturn/LockName", name := "isLetterOrDigit", desc := "(C)Z" } : Jvm.MethodName) prog_4_method_3_code (1 : Nat) (Option.some Jvm.ClassFile.FieldType.boolean), Jvm.Cond.code ({ cls := "java/lang/String", name := "length", desc := "()I" } : Jvm.MethodName) jdk_42_method_54_code (1 : Nat) (Option.some Jvm.ClassFile.FieldType.int), Jvm.Cond.code ({ cls := "java/lang/String", name := "coder", desc := "()B" } : Jvm.MethodName) jdk_42_method_152_code (1 : Nat) (Option.some Jvm.ClassFile.FieldType.byte), Jvm.Cond.code ({ cls := "com/example/await_in_turn/awaitinturn/LockName", name := "<init>", desc := "(Ljava/lang/String;)V" } : Jvm.MethodName) prog_4_method_1_code (2 : Nat) (Option.none : Option Jvm.ClassFile.FieldType), Jvm.Cond.code ({ cls := "com/example/await_in_turn/awaitinturn/LockName", name := "toString", desc := "()Ljava/lang/String;" } : Jvm.MethodName) prog_4_method_6_code (1 : Nat) (Option.some (Jvm.ClassFile.FieldType.object "java/lang/String")), Jvm.Cond.code ({ cls := "java/lang/String", name := "equals", desc := "(Ljava/lang/Object;)Z" } : Jvm.MethodName) jdk_42_method_66_code (3 : Nat) (Option.some Jvm.ClassFile.FieldType.boolean), Jvm.Cond.code ({ cls := "com/example/await_in_turn/awaitinturn/LockName", name := "equals", desc := "(Ljava/lang/Object;)Z" } : Jvm.MethodName) prog_4_method_7_code (3 : Nat) (Option.some Jvm.ClassFile.FieldType.boolean), Jvm.Cond.code ({ cls := "java/lang/StringLatin1", name := "equals", desc := "([B[B)Z" } : Jvm.MethodName) jdk_43_method_13_code (3 : Nat) (Option.some Jvm.ClassFile.FieldType.boolean), Jvm.Cond.code ({ cls := "com/example/await_in_turn/awaitinturn/LockNameOfPinLaw", name := "rest", desc := "(I)C" } : Jvm.MethodName) method_3_code (2 : Nat) (Option.some Jvm.ClassFile.FieldType.char)]
set_option maxRecDepth 65536 in
theorem codes_eq : words1.filter isCode = codes1 := rfl
theorem w_codes : ∀ c ∈ words1.filter isCode, c.before args0 about1 = true := by
  rw [codes_eq]
  intro c hc
  simp only [codes1, List.mem_cons, List.not_mem_nil, or_false] at hc
  rcases hc with rfl | rfl | rfl | rfl | rfl | rfl | rfl | rfl | rfl | rfl | rfl | rfl | rfl | rfl | rfl | rfl | rfl | rfl | rfl | rfl | rfl | rfl | rfl | rfl | rfl | rfl
  · exact w_c0
  · exact w_c1
  · exact w_c2
  · exact w_c3
  · exact w_c4
  · exact w_c5
  · exact w_c6
  · exact w_c7
  · exact w_c8
  · exact w_c9
  · exact w_c10
  · exact w_c11
  · exact w_c12
  · exact w_c13
  · exact w_c14
  · exact w_c15
  · exact w_c16
  · exact w_c17
  · exact w_c18
  · exact w_c19
  · exact w_c20
  · exact w_c21
  · exact w_c22
  · exact w_c23
  · exact w_c24
  · exact w_c25
set_option maxRecDepth 65536 in
theorem w_t1 : (words1.take 24).all (fun c => isCode c || c.before args0 about1) = true := by decide +kernel
set_option maxRecDepth 65536 in
theorem w_t2 : ((words1.drop 24).take 24).all (fun c => isCode c || c.before args0 about1) = true := by decide +kernel
set_option maxRecDepth 65536 in
theorem w_t3 : (((words1.drop 24).drop 24).take 24).all (fun c => isCode c || c.before args0 about1) = true := by decide +kernel
set_option maxRecDepth 65536 in
theorem w_t4 : ((((words1.drop 24).drop 24).drop 24).take 24).all (fun c => isCode c || c.before args0 about1) = true := by decide +kernel
set_option maxRecDepth 65536 in
theorem w_t5 : ((((words1.drop 24).drop 24).drop 24).drop 24).all (fun c => isCode c || c.before args0 about1) = true := by decide +kernel
theorem w_tables : (allAtoms (Jvm.Cond.code x code maxLocals ret :: tables_1)).before args0 about1 = true := by
  rw [allAtoms_all]
  show words1.all (fun c => c.before args0 about1) = true
  refine all_split ?_ w_codes
  rw [← List.take_append_drop 24 words1, List.all_append, w_t1, ← List.take_append_drop 24 (words1.drop 24), List.all_append, w_t2, ← List.take_append_drop 24 ((words1.drop 24).drop 24), List.all_append, w_t3, ← List.take_append_drop 24 (((words1.drop 24).drop 24).drop 24), List.all_append, w_t4, w_t5]
  rfl
set_option maxRecDepth 65536 in
theorem w_rest : rest_1_c.before args0 about1 = true := by decide +kernel
set_option maxRecDepth 65536 in
theorem w_case : (Jvm.Cond.and given_1 narrow_1).before args0 about1 = true := by decide +kernel
theorem w_applies : (headSpec (Jvm.Cond.code x code maxLocals ret :: tables_1) room_1).applies x e0.platform about1 = true :=
  (Spec.applies_iff w_frames).mpr ⟨w_running, w_runnable, w_alone, w_named, w_hears, w_ripe, w_room, w_tables⟩
theorem atStart : AtStart classFile x code maxLocals ret World_1 tables_1 room_1 Calls_1 rest_1 Pre_1 launch0 p0 e0 about1 theMethod args0 below0 :=
  ⟨lists_1, trivial, launch0.admits_env _ _ _, launch0.least_env, fairChoices_fair.cas, fairChoices_fair.clock, w_frames, w_args, w_heap, w_applies, trivial, w_rest, w_case⟩
end start1
theorem witness_1 : WitnessClaimed_1 := ⟨start1.p0, start1.e0, start1.about1, start1.theMethod, start1.args0, start1.below0, start1.atStart⟩
end Jvm.Pilot.@@N@@

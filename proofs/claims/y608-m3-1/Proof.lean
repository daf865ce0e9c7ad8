import JvmDerived
import JvmDerived.Pilot.@@N@@Statement
import JvmDerived.Pilot.@@N@@Code
set_option linter.unusedVariables false
set_option linter.unusedSimpArgs false
namespace Jvm.Pilot.@@N@@
open Jvm Jvm.ClassFile Sem Op Lib Jvm.Free Jvm.Stand Jvm.LawKit Jvm.RoadKit Bundle Jvm.Pilot.@@N@@.Jvm.D
/-- from the frame g over T the run comes to its end, and P holds of what comes out -/
def Wp (p : Program) (e : Env) (below : List Frame) (P : Outcome → State → Prop) (T : State) (g : JFrame) : Prop := ∃ s₂ o, Steps p.tables e below (T.setTop g) s₂ ∧ s₂.status = .running ∧ Ended s₂ below o ∧ P o s₂
/-- where a walk stands -/
def WS (p : Program) (l : Launch) (e : Env) (R : Room) (s : State) (m : MethodId) (args : Array Value) (below : List Frame) (meth : Method) (c : Code) (Z : State) (EL : List (String × Nat)) (n0 : Nat) (own : String) (code : ByteArray) (ml : Nat) (bw : Bool) (vm : Vm) (T : State) (h : Heap) (locs : List Loc) (cells slots : Nat) : Prop :=
  Stand p l e R (s.setVm vm) m args below meth c T locs cells slots ∧ T.heap = h ∧ Z.Warmed39 (s.setVm vm).vm ∧ (s.setVm vm).vm.findClass own = some m.cls ∧ p.tables.exec = Jvm.exec ∧ c.code = code ∧ c.maxLocals = ml ∧ Fr n0 locs ∧ Old Z n0 h ∧ ((bw = false ∧ vm = s.vm) ∨ (bw = true ∧ (∃ k, s.Since vm k ∧ k ≤ h.size) ∧ CHr Z EL s.vm s.heap vm h))
/-- what a callee's payer gives: a callee that interns nothing -/
def BkN (l : Launch) (R : Room) (p : Program) (e : Env) (below : List Frame) (s : State) (args : Array Value) (y : MethodName) (len W : Nat) (as' : Array Value) (h : Heap) (n0 : Nat) (wr : List Addr) (Q : Option Value → Heap → Prop) (kc ks : Nat) : Prop := Back l R p e below s args y len W (fun B a => a = as' ∧ B.U.heap = h ∧ B.cells + kc ≤ R.cells ∧ B.slots + ks ≤ R.slots) (fun B _ v B' => ∃ L, (Fr n0 L ∧ Keep h B'.U.heap wr ∧ Q v B'.U.heap) ∧ B'.locs = B.locs ++ L ∧ B'.cells = B.cells + kc ∧ B'.slots = B.slots + ks)
/-- .. and one that may -/
def BkS (l : Launch) (R : Room) (p : Program) (e : Env) (below : List Frame) (s : State) (args : Array Value) (y : MethodName) (len W : Nat) (as' : Array Value) (h : Heap) (n0 : Nat) (wr : List Addr) (Q : Option Value → Heap → Prop) (kc ks : Nat) (Z : State) (EL : List (String × Nat)) (vm : Vm) : Prop := BackS l R p e below s args y len W (fun B a => a = as' ∧ B.U.heap = h ∧ B.cells + kc ≤ R.cells ∧ B.slots + ks ≤ R.slots) (fun B _ v B' => ∃ L, (Fr n0 L ∧ Keep h B'.U.heap wr ∧ Q v B'.U.heap) ∧ B'.locs = B.locs ++ L ∧ B'.cells = B.cells + kc ∧ B'.slots = B.slots + ks ∧ CHr Z EL vm h B'.U.vm B'.U.heap)
section OwnKit
variable {p : Program} {l : Launch} {e : Env} {R : Room} {s : State} {m : MethodId} {args : Array Value} {below : List Frame} {meth : Method} {c : Code} {Z : State} {EL : List (String × Nat)} {n0 : Nat} {own : String} {code : ByteArray} {ml : Nat} {bw : Bool} {vm : Vm} {T : State} {h : Heap} {locs : List Loc} {cells slots : Nat} {P : Outcome → State → Prop} {pc pc' : Nat} {L : Array Slot} {S : List Value} {a0 : Array Value}
theorem Wp.go {T T' : State} {g g' : JFrame} (k : Wp p e below P T' g') (st : ∀ t, Steps p.tables e below (T'.setTop g') t → Steps p.tables e below (T.setTop g) t) : Wp p e below P T g := by
  obtain ⟨s₂, o, a, r⟩ := k; exact ⟨s₂, o, st _ a, r⟩
theorem Wp.gos {T T' : State} {g g' : JFrame} (k : Wp p e below P T' g') (st : Steps p.tables e below (T.setTop g) (T'.setTop g')) : Wp p e below P T g := by
  obtain ⟨s₂, o, a, r⟩ := k; exact ⟨s₂, o, st.trans a, r⟩
abbrev wN (bw : Bool) (Z : State) (EL : List (String × Nat)) (vm : Vm) (h : Heap) (a : Addr) : Prop := bw = true → Safe Z EL vm h a
/-- a step of the tables alone -/
theorem WS.still {T' : State} (A : WS p l e R s m args below meth c Z EL n0 own code ml bw vm T h locs cells slots) (X : Stand p l e R (s.setVm vm) m args below meth c T' locs cells slots) (q : T'.heap = h) : WS p l e R s m args below meth c Z EL n0 own code ml bw vm T' h locs cells slots :=
  ⟨X, q, A.2.2⟩
theorem WS.grow {T' : State} {h' : Heap} {k n : Nat} (A : WS p l e R s m args below meth c Z EL n0 own code ml bw vm T h locs cells slots) (X : Stand p l e R (s.setVm vm) m args below meth c T' locs k n) (q : T'.heap = h') (E : Ext h h') : WS p l e R s m args below meth c Z EL n0 own code ml bw vm T' h' locs k n := by
  obtain ⟨-, -, a3, a4, a5, a6, a7, a8, a9, b⟩ := A
  refine ⟨X, q, a3, a4, a5, a6, a7, a8, a9.ext E, b.imp id fun ⟨b1, ⟨k, b2, b3⟩, b4⟩ => ⟨b1, ⟨k, b2, Nat.le_trans b3 E.1⟩, b4.trans (CHr.ext E b4.1)⟩⟩
theorem WS.kept {T' : State} {h' : Heap} {locs' : List Loc} {k n : Nat} {ws : List Addr} (A : WS p l e R s m args below meth c Z EL n0 own code ml bw vm T h locs cells slots) (X : Stand p l e R (s.setVm vm) m args below meth c T' locs' k n) (q : T'.heap = h') (N : Fr n0 locs') (K : Keep h h' ws) (hn : ∀ x ∈ ws, n0 ≤ x) (sf : bw = true → ∀ x ∈ ws, Safe Z EL vm h x) : WS p l e R s m args below meth c Z EL n0 own code ml bw vm T' h' locs' k n := by
  obtain ⟨-, -, a3, a4, a5, a6, a7, a8, a9, b⟩ := A
  refine ⟨X, q, a3, a4, a5, a6, a7, N, a9.keep K hn, b.imp id fun ⟨b1, ⟨k, b2, b3⟩, b4⟩ => ⟨b1, ⟨k, b2, Nat.le_trans b3 K.1⟩, b4.trans (CHr.keep K (sf b1) b4.1)⟩⟩
theorem WS.old (A : WS p l e R s m args below meth c Z EL n0 own code ml bw vm T h locs cells slots) : Old Z n0 h := A.2.2.2.2.2.2.2.2.1
theorem WS.sz (A : WS p l e R s m args below meth c Z EL n0 own code ml bw vm T h locs cells slots) : n0 ≤ h.size := by have q := A.old; exact q.1 ▸ q.2.1
theorem WS.hZ (A : WS p l e R s m args below meth c Z EL n0 own code ml bw vm T h locs cells slots) : Z.Warmed39 (s.setVm vm).vm := A.2.2.1
theorem WS.ch (A : WS p l e R s m args below meth c Z EL n0 own code ml bw vm T h locs cells slots) (q : bw = true) : CHr Z EL s.vm s.heap vm h := by
  obtain ⟨-, -, -, -, -, -, -, -, -, b⟩ := A
  rcases b with ⟨b, -⟩ | ⟨-, -, b⟩
  · rw [b] at q; cases q
  · exact b
theorem wd {ws : List Jvm.Cond} (hw : ∀ d ∈ ws, d.before a0 Z = true) (i : Nat) {d : Jvm.Cond} (q : ws[i]? = some d) : d.before a0 Z = true := hw _ (List.mem_of_getElem? q)
theorem Fld.ks {a : Addr} {C n d : String} {v : Value} {h h' : Heap} {ws : List Addr} (F : Fld Z h a C n d v) (K : Keep h h' ws) (q : a ∉ ws) : Fld Z h' a C n d v := F.keep K q

theorem f_iload (A : WS p l e R s m args below meth c Z EL n0 own code ml bw vm T h locs cells slots) {i : Nat} {v : Int32} (hd : decode code pc = .ok (.iload i, 2)) (hp : pc + 2 = pc') (hl : L[i]? = some (.val (.int v))) (k : Wp p e below P T (mkF m pc' L (.int v :: S))) : Wp p e below P T (mkF m pc L S) := by
  subst hp; exact k.go fun _ q => XS.iload A.1.here A.2.2.2.2.1 rfl (hb A.2.2.2.2.2.1 hd) hl q
theorem f_iloadN (A : WS p l e R s m args below meth c Z EL n0 own code ml bw vm T h locs cells slots) {i : Fin 4} {v : Int32} (hd : decode code pc = .ok (.iload_n i, 1)) (hp : pc + 1 = pc') (hl : L[i.val]? = some (.val (.int v))) (k : Wp p e below P T (mkF m pc' L (.int v :: S))) : Wp p e below P T (mkF m pc L S) := by
  subst hp; exact k.go fun _ q => XS.iloadN A.1.here A.2.2.2.2.1 rfl (hb A.2.2.2.2.2.1 hd) hl q
theorem f_istore (A : WS p l e R s m args below meth c Z EL n0 own code ml bw vm T h locs cells slots) {i : Nat} {v : Int32} {L' : Array Slot} (hd : decode code pc = .ok (.istore i, 2)) (hp : pc + 2 = pc') (hl : storeLocals L i (.int v) = some L') (k : Wp p e below P T (mkF m pc' L' S)) : Wp p e below P T (mkF m pc L (.int v :: S)) := by
  subst hp; exact k.go fun _ q => XS.istore A.1.here A.2.2.2.2.1 rfl (hb A.2.2.2.2.2.1 hd) rfl hl q
theorem f_istoreN (A : WS p l e R s m args below meth c Z EL n0 own code ml bw vm T h locs cells slots) {i : Fin 4} {v : Int32} {L' : Array Slot} (hd : decode code pc = .ok (.istore_n i, 1)) (hp : pc + 1 = pc') (hl : storeLocals L i.val (.int v) = some L') (k : Wp p e below P T (mkF m pc' L' S)) : Wp p e below P T (mkF m pc L (.int v :: S)) := by
  subst hp; exact k.go fun _ q => XS.istoreN A.1.here A.2.2.2.2.1 rfl (hb A.2.2.2.2.2.1 hd) rfl hl q
theorem f_lload (A : WS p l e R s m args below meth c Z EL n0 own code ml bw vm T h locs cells slots) {i : Nat} {v : Int64} (hd : decode code pc = .ok (.lload i, 2)) (hp : pc + 2 = pc') (hl : L[i]? = some (.val (.long v))) (k : Wp p e below P T (mkF m pc' L (.long v :: S))) : Wp p e below P T (mkF m pc L S) := by
  subst hp; exact k.go fun _ q => XS.lload A.1.here A.2.2.2.2.1 rfl (hb A.2.2.2.2.2.1 hd) hl q
theorem f_lloadN (A : WS p l e R s m args below meth c Z EL n0 own code ml bw vm T h locs cells slots) {i : Fin 4} {v : Int64} (hd : decode code pc = .ok (.lload_n i, 1)) (hp : pc + 1 = pc') (hl : L[i.val]? = some (.val (.long v))) (k : Wp p e below P T (mkF m pc' L (.long v :: S))) : Wp p e below P T (mkF m pc L S) := by
  subst hp; exact k.go fun _ q => XS.lloadN A.1.here A.2.2.2.2.1 rfl (hb A.2.2.2.2.2.1 hd) hl q
theorem f_lstore (A : WS p l e R s m args below meth c Z EL n0 own code ml bw vm T h locs cells slots) {i : Nat} {v : Int64} {L' : Array Slot} (hd : decode code pc = .ok (.lstore i, 2)) (hp : pc + 2 = pc') (hl : storeLocals L i (.long v) = some L') (k : Wp p e below P T (mkF m pc' L' S)) : Wp p e below P T (mkF m pc L (.long v :: S)) := by
  subst hp; exact k.go fun _ q => XS.lstore A.1.here A.2.2.2.2.1 rfl (hb A.2.2.2.2.2.1 hd) rfl hl q
theorem f_lstoreN (A : WS p l e R s m args below meth c Z EL n0 own code ml bw vm T h locs cells slots) {i : Fin 4} {v : Int64} {L' : Array Slot} (hd : decode code pc = .ok (.lstore_n i, 1)) (hp : pc + 1 = pc') (hl : storeLocals L i.val (.long v) = some L') (k : Wp p e below P T (mkF m pc' L' S)) : Wp p e below P T (mkF m pc L (.long v :: S)) := by
  subst hp; exact k.go fun _ q => XS.lstoreN A.1.here A.2.2.2.2.1 rfl (hb A.2.2.2.2.2.1 hd) rfl hl q
theorem f_aload (A : WS p l e R s m args below meth c Z EL n0 own code ml bw vm T h locs cells slots) {i : Nat} {v : Value} (hd : decode code pc = .ok (.aload i, 2)) (hp : pc + 2 = pc') (hl : L[i]? = some (.val v)) (hv : v.isRef = true) (k : Wp p e below P T (mkF m pc' L (v :: S))) : Wp p e below P T (mkF m pc L S) := by
  subst hp; exact k.go fun _ q => XS.aload A.1.here A.2.2.2.2.1 rfl (hb A.2.2.2.2.2.1 hd) hl hv q
theorem f_aloadN (A : WS p l e R s m args below meth c Z EL n0 own code ml bw vm T h locs cells slots) {i : Fin 4} {v : Value} (hd : decode code pc = .ok (.aload_n i, 1)) (hp : pc + 1 = pc') (hl : L[i.val]? = some (.val v)) (hv : v.isRef = true) (k : Wp p e below P T (mkF m pc' L (v :: S))) : Wp p e below P T (mkF m pc L S) := by
  subst hp; exact k.go fun _ q => XS.aloadN A.1.here A.2.2.2.2.1 rfl (hb A.2.2.2.2.2.1 hd) hl hv q
theorem f_astore (A : WS p l e R s m args below meth c Z EL n0 own code ml bw vm T h locs cells slots) {i : Nat} {v : Value} {L' : Array Slot} (hd : decode code pc = .ok (.astore i, 2)) (hp : pc + 2 = pc') (hv : v.isRef = true) (hl : storeLocals L i v = some L') (k : Wp p e below P T (mkF m pc' L' S)) : Wp p e below P T (mkF m pc L (v :: S)) := by
  subst hp; exact k.go fun _ q => XS.astore A.1.here A.2.2.2.2.1 rfl (hb A.2.2.2.2.2.1 hd) rfl hv hl q
theorem f_astoreN (A : WS p l e R s m args below meth c Z EL n0 own code ml bw vm T h locs cells slots) {i : Fin 4} {v : Value} {L' : Array Slot} (hd : decode code pc = .ok (.astore_n i, 1)) (hp : pc + 1 = pc') (hv : v.isRef = true) (hl : storeLocals L i.val v = some L') (k : Wp p e below P T (mkF m pc' L' S)) : Wp p e below P T (mkF m pc L (v :: S)) := by
  subst hp; exact k.go fun _ q => XS.astoreN A.1.here A.2.2.2.2.1 rfl (hb A.2.2.2.2.2.1 hd) rfl hv hl q
theorem f_iconst (A : WS p l e R s m args below meth c Z EL n0 own code ml bw vm T h locs cells slots) {i : Int} (hd : decode code pc = .ok (.iconst i, 1)) (hp : pc + 1 = pc') (v : Int32) (hv : Int32.ofInt i = v) (k : Wp p e below P T (mkF m pc' L (.int v :: S))) : Wp p e below P T (mkF m pc L S) := by
  subst hp hv; exact k.go fun _ q => XS.iconst A.1.here A.2.2.2.2.1 rfl (hb A.2.2.2.2.2.1 hd) q
theorem f_bipush (A : WS p l e R s m args below meth c Z EL n0 own code ml bw vm T h locs cells slots) {i : Int} (hd : decode code pc = .ok (.bipush i, 2)) (hp : pc + 2 = pc') (v : Int32) (hv : (Int8.ofInt i).toInt32 = v) (k : Wp p e below P T (mkF m pc' L (.int v :: S))) : Wp p e below P T (mkF m pc L S) := by
  subst hp hv; exact k.go fun _ q => XS.bipush A.1.here A.2.2.2.2.1 rfl (hb A.2.2.2.2.2.1 hd) q
theorem f_sipush (A : WS p l e R s m args below meth c Z EL n0 own code ml bw vm T h locs cells slots) {i : Int} (hd : decode code pc = .ok (.sipush i, 3)) (hp : pc + 3 = pc') (v : Int32) (hv : (Int16.ofInt i).toInt32 = v) (k : Wp p e below P T (mkF m pc' L (.int v :: S))) : Wp p e below P T (mkF m pc L S) := by
  subst hp hv; exact k.go fun _ q => XS.sipush A.1.here A.2.2.2.2.1 rfl (hb A.2.2.2.2.2.1 hd) q
theorem f_lconst (A : WS p l e R s m args below meth c Z EL n0 own code ml bw vm T h locs cells slots) {i : Fin 2} (hd : decode code pc = .ok (.lconst i, 1)) (hp : pc + 1 = pc') (v : Int64) (hv : Int64.ofNat i = v) (k : Wp p e below P T (mkF m pc' L (.long v :: S))) : Wp p e below P T (mkF m pc L S) := by
  subst hp hv; exact k.go fun _ q => XS.lconst A.1.here A.2.2.2.2.1 rfl (hb A.2.2.2.2.2.1 hd) q
theorem f_aconst_null (A : WS p l e R s m args below meth c Z EL n0 own code ml bw vm T h locs cells slots) (hd : decode code pc = .ok (.aconst_null, 1)) (hp : pc + 1 = pc') (k : Wp p e below P T (mkF m pc' L (.null :: S))) : Wp p e below P T (mkF m pc L S) := by
  subst hp; exact k.go fun _ q => XS.aconstNull A.1.here A.2.2.2.2.1 rfl (hb A.2.2.2.2.2.1 hd) q
theorem f_ldcI (A : WS p l e R s m args below meth c Z EL n0 own code ml bw vm T h locs cells slots) {i : Nat} {v : Int32} (hd : decode code pc = .ok (.ldc i, 2)) (hp : pc + 2 = pc') (w : (Cond.constant own i v).before a0 Z = true) (k : Wp p e below P T (mkF m pc' L (.int v :: S))) : Wp p e below P T (mkF m pc L S) := by
  subst hp; exact k.go fun t q => A.1.ldcInt A.2.2.2.2.1 A.2.2.2.1 (mvT A.hZ w) (g := mkF m pc L S) rfl (hb A.2.2.2.2.2.1 hd) t q
theorem f_ldc2J (A : WS p l e R s m args below meth c Z EL n0 own code ml bw vm T h locs cells slots) {i : Nat} {v : Int64} (hd : decode code pc = .ok (.ldc2_w i, 3)) (hp : pc + 3 = pc') (w : (Cond.constantLong own i v).before a0 Z = true) (k : Wp p e below P T (mkF m pc' L (.long v :: S))) : Wp p e below P T (mkF m pc L S) := by
  subst hp; exact k.go fun t q => A.1.ldc2Long A.2.2.2.2.1 A.2.2.2.1 (mvT A.hZ w) (g := mkF m pc L S) rfl (hb A.2.2.2.2.2.1 hd) t q
theorem f_iadd (A : WS p l e R s m args below meth c Z EL n0 own code ml bw vm T h locs cells slots) {x y : Int32} (hd : decode code pc = .ok (.iadd, 1)) (hp : pc + 1 = pc') (z : Int32) (hz : x + y = z) (k : Wp p e below P T (mkF m pc' L (.int z :: S))) : Wp p e below P T (mkF m pc L (.int y :: .int x :: S)) := by
  subst hp hz; exact k.go fun _ q => XS.iadd A.1.here A.2.2.2.2.1 rfl (hb A.2.2.2.2.2.1 hd) rfl q
theorem f_isub (A : WS p l e R s m args below meth c Z EL n0 own code ml bw vm T h locs cells slots) {x y : Int32} (hd : decode code pc = .ok (.isub, 1)) (hp : pc + 1 = pc') (z : Int32) (hz : x - y = z) (k : Wp p e below P T (mkF m pc' L (.int z :: S))) : Wp p e below P T (mkF m pc L (.int y :: .int x :: S)) := by
  subst hp hz; exact k.go fun _ q => XS.isub A.1.here A.2.2.2.2.1 rfl (hb A.2.2.2.2.2.1 hd) rfl q
theorem f_imul (A : WS p l e R s m args below meth c Z EL n0 own code ml bw vm T h locs cells slots) {x y : Int32} (hd : decode code pc = .ok (.imul, 1)) (hp : pc + 1 = pc') (z : Int32) (hz : x * y = z) (k : Wp p e below P T (mkF m pc' L (.int z :: S))) : Wp p e below P T (mkF m pc L (.int y :: .int x :: S)) := by
  subst hp hz; exact k.go fun _ q => XS.imul A.1.here A.2.2.2.2.1 rfl (hb A.2.2.2.2.2.1 hd) rfl q
theorem f_iand (A : WS p l e R s m args below meth c Z EL n0 own code ml bw vm T h locs cells slots) {x y : Int32} (hd : decode code pc = .ok (.iand, 1)) (hp : pc + 1 = pc') (z : Int32) (hz : x &&& y = z) (k : Wp p e below P T (mkF m pc' L (.int z :: S))) : Wp p e below P T (mkF m pc L (.int y :: .int x :: S)) := by
  subst hp hz; exact k.go fun _ q => XS.iand A.1.here A.2.2.2.2.1 rfl (hb A.2.2.2.2.2.1 hd) rfl q
theorem f_ior (A : WS p l e R s m args below meth c Z EL n0 own code ml bw vm T h locs cells slots) {x y : Int32} (hd : decode code pc = .ok (.ior, 1)) (hp : pc + 1 = pc') (z : Int32) (hz : x ||| y = z) (k : Wp p e below P T (mkF m pc' L (.int z :: S))) : Wp p e below P T (mkF m pc L (.int y :: .int x :: S)) := by
  subst hp hz; exact k.go fun _ q => XS.ior A.1.here A.2.2.2.2.1 rfl (hb A.2.2.2.2.2.1 hd) rfl q
theorem f_ixor (A : WS p l e R s m args below meth c Z EL n0 own code ml bw vm T h locs cells slots) {x y : Int32} (hd : decode code pc = .ok (.ixor, 1)) (hp : pc + 1 = pc') (z : Int32) (hz : x ^^^ y = z) (k : Wp p e below P T (mkF m pc' L (.int z :: S))) : Wp p e below P T (mkF m pc L (.int y :: .int x :: S)) := by
  subst hp hz; exact k.go fun _ q => XS.ixor A.1.here A.2.2.2.2.1 rfl (hb A.2.2.2.2.2.1 hd) rfl q
theorem f_ishl (A : WS p l e R s m args below meth c Z EL n0 own code ml bw vm T h locs cells slots) {x y : Int32} (hd : decode code pc = .ok (.ishl, 1)) (hp : pc + 1 = pc') (z : Int32) (hz : x <<< (y &&& 31) = z) (k : Wp p e below P T (mkF m pc' L (.int z :: S))) : Wp p e below P T (mkF m pc L (.int y :: .int x :: S)) := by
  subst hp hz; exact k.go fun _ q => XS.ishl A.1.here A.2.2.2.2.1 rfl (hb A.2.2.2.2.2.1 hd) rfl q
theorem f_ishr (A : WS p l e R s m args below meth c Z EL n0 own code ml bw vm T h locs cells slots) {x y : Int32} (hd : decode code pc = .ok (.ishr, 1)) (hp : pc + 1 = pc') (z : Int32) (hz : x >>> (y &&& 31) = z) (k : Wp p e below P T (mkF m pc' L (.int z :: S))) : Wp p e below P T (mkF m pc L (.int y :: .int x :: S)) := by
  subst hp hz; exact k.go fun _ q => XS.ishr A.1.here A.2.2.2.2.1 rfl (hb A.2.2.2.2.2.1 hd) rfl q
theorem f_iushr (A : WS p l e R s m args below meth c Z EL n0 own code ml bw vm T h locs cells slots) {x y : Int32} (hd : decode code pc = .ok (.iushr, 1)) (hp : pc + 1 = pc') (z : Int32) (hz : (x.toUInt32 >>> (y &&& 31).toUInt32).toInt32 = z) (k : Wp p e below P T (mkF m pc' L (.int z :: S))) : Wp p e below P T (mkF m pc L (.int y :: .int x :: S)) := by
  subst hp hz; exact k.go fun _ q => XS.iushr A.1.here A.2.2.2.2.1 rfl (hb A.2.2.2.2.2.1 hd) rfl q
theorem f_ladd (A : WS p l e R s m args below meth c Z EL n0 own code ml bw vm T h locs cells slots) {x y : Int64} (hd : decode code pc = .ok (.ladd, 1)) (hp : pc + 1 = pc') (z : Int64) (hz : x + y = z) (k : Wp p e below P T (mkF m pc' L (.long z :: S))) : Wp p e below P T (mkF m pc L (.long y :: .long x :: S)) := by
  subst hp hz; exact k.go fun _ q => XS.ladd A.1.here A.2.2.2.2.1 rfl (hb A.2.2.2.2.2.1 hd) rfl q
theorem f_lsub (A : WS p l e R s m args below meth c Z EL n0 own code ml bw vm T h locs cells slots) {x y : Int64} (hd : decode code pc = .ok (.lsub, 1)) (hp : pc + 1 = pc') (z : Int64) (hz : x - y = z) (k : Wp p e below P T (mkF m pc' L (.long z :: S))) : Wp p e below P T (mkF m pc L (.long y :: .long x :: S)) := by
  subst hp hz; exact k.go fun _ q => XS.lsub A.1.here A.2.2.2.2.1 rfl (hb A.2.2.2.2.2.1 hd) rfl q
theorem f_lmul (A : WS p l e R s m args below meth c Z EL n0 own code ml bw vm T h locs cells slots) {x y : Int64} (hd : decode code pc = .ok (.lmul, 1)) (hp : pc + 1 = pc') (z : Int64) (hz : x * y = z) (k : Wp p e below P T (mkF m pc' L (.long z :: S))) : Wp p e below P T (mkF m pc L (.long y :: .long x :: S)) := by
  subst hp hz; exact k.go fun _ q => XS.lmul A.1.here A.2.2.2.2.1 rfl (hb A.2.2.2.2.2.1 hd) rfl q
theorem f_land (A : WS p l e R s m args below meth c Z EL n0 own code ml bw vm T h locs cells slots) {x y : Int64} (hd : decode code pc = .ok (.land, 1)) (hp : pc + 1 = pc') (z : Int64) (hz : x &&& y = z) (k : Wp p e below P T (mkF m pc' L (.long z :: S))) : Wp p e below P T (mkF m pc L (.long y :: .long x :: S)) := by
  subst hp hz; exact k.go fun _ q => XS.land A.1.here A.2.2.2.2.1 rfl (hb A.2.2.2.2.2.1 hd) rfl q
theorem f_lor (A : WS p l e R s m args below meth c Z EL n0 own code ml bw vm T h locs cells slots) {x y : Int64} (hd : decode code pc = .ok (.lor, 1)) (hp : pc + 1 = pc') (z : Int64) (hz : x ||| y = z) (k : Wp p e below P T (mkF m pc' L (.long z :: S))) : Wp p e below P T (mkF m pc L (.long y :: .long x :: S)) := by
  subst hp hz; exact k.go fun _ q => XS.lor A.1.here A.2.2.2.2.1 rfl (hb A.2.2.2.2.2.1 hd) rfl q
theorem f_lxor (A : WS p l e R s m args below meth c Z EL n0 own code ml bw vm T h locs cells slots) {x y : Int64} (hd : decode code pc = .ok (.lxor, 1)) (hp : pc + 1 = pc') (z : Int64) (hz : x ^^^ y = z) (k : Wp p e below P T (mkF m pc' L (.long z :: S))) : Wp p e below P T (mkF m pc L (.long y :: .long x :: S)) := by
  subst hp hz; exact k.go fun _ q => XS.lxor A.1.here A.2.2.2.2.1 rfl (hb A.2.2.2.2.2.1 hd) rfl q
theorem f_lshl (A : WS p l e R s m args below meth c Z EL n0 own code ml bw vm T h locs cells slots) {x : Int64} {y : Int32} (hd : decode code pc = .ok (.lshl, 1)) (hp : pc + 1 = pc') (z : Int64) (hz : x <<< (y &&& 63).toInt64 = z) (k : Wp p e below P T (mkF m pc' L (.long z :: S))) : Wp p e below P T (mkF m pc L (.int y :: .long x :: S)) := by
  subst hp hz; exact k.go fun _ q => XS.lshl A.1.here A.2.2.2.2.1 rfl (hb A.2.2.2.2.2.1 hd) rfl q
theorem f_lshr (A : WS p l e R s m args below meth c Z EL n0 own code ml bw vm T h locs cells slots) {x : Int64} {y : Int32} (hd : decode code pc = .ok (.lshr, 1)) (hp : pc + 1 = pc') (z : Int64) (hz : x >>> (y &&& 63).toInt64 = z) (k : Wp p e below P T (mkF m pc' L (.long z :: S))) : Wp p e below P T (mkF m pc L (.int y :: .long x :: S)) := by
  subst hp hz; exact k.go fun _ q => XS.lshr A.1.here A.2.2.2.2.1 rfl (hb A.2.2.2.2.2.1 hd) rfl q
theorem f_lushr (A : WS p l e R s m args below meth c Z EL n0 own code ml bw vm T h locs cells slots) {x : Int64} {y : Int32} (hd : decode code pc = .ok (.lushr, 1)) (hp : pc + 1 = pc') (z : Int64) (hz : (x.toUInt64 >>> (y &&& 0x3f).toInt64.toUInt64).toInt64 = z) (k : Wp p e below P T (mkF m pc' L (.long z :: S))) : Wp p e below P T (mkF m pc L (.int y :: .long x :: S)) := by
  subst hp hz; exact k.go fun _ q => XS.lushr A.1.here A.2.2.2.2.1 rfl (hb A.2.2.2.2.2.1 hd) rfl q
theorem f_idiv (A : WS p l e R s m args below meth c Z EL n0 own code ml bw vm T h locs cells slots) {x y : Int32} (hd : decode code pc = .ok (.idiv, 1)) (hp : pc + 1 = pc') (hy : y ≠ 0) (z : Int32) (hz : x / y = z) (k : Wp p e below P T (mkF m pc' L (.int z :: S))) : Wp p e below P T (mkF m pc L (.int y :: .int x :: S)) := by
  subst hp hz; exact k.go fun _ q => XS.idiv A.1.here A.2.2.2.2.1 rfl (hb A.2.2.2.2.2.1 hd) rfl hy q
theorem f_ldiv (A : WS p l e R s m args below meth c Z EL n0 own code ml bw vm T h locs cells slots) {x y : Int64} (hd : decode code pc = .ok (.ldiv, 1)) (hp : pc + 1 = pc') (hy : y ≠ 0) (z : Int64) (hz : x / y = z) (k : Wp p e below P T (mkF m pc' L (.long z :: S))) : Wp p e below P T (mkF m pc L (.long y :: .long x :: S)) := by
  subst hp hz; exact k.go fun _ q => XS.ldiv A.1.here A.2.2.2.2.1 rfl (hb A.2.2.2.2.2.1 hd) rfl hy q
theorem f_irem (A : WS p l e R s m args below meth c Z EL n0 own code ml bw vm T h locs cells slots) {x y : Int32} (hd : decode code pc = .ok (.irem, 1)) (hp : pc + 1 = pc') (hy : y ≠ 0) (z : Int32) (hz : x % y = z) (k : Wp p e below P T (mkF m pc' L (.int z :: S))) : Wp p e below P T (mkF m pc L (.int y :: .int x :: S)) := by
  subst hp hz; exact k.go fun _ q => iremM A.1 A.2.2.2.2.1 rfl (hb A.2.2.2.2.2.1 hd) rfl hy q
theorem f_lrem (A : WS p l e R s m args below meth c Z EL n0 own code ml bw vm T h locs cells slots) {x y : Int64} (hd : decode code pc = .ok (.lrem, 1)) (hp : pc + 1 = pc') (hy : y ≠ 0) (z : Int64) (hz : x % y = z) (k : Wp p e below P T (mkF m pc' L (.long z :: S))) : Wp p e below P T (mkF m pc L (.long y :: .long x :: S)) := by
  subst hp hz; exact k.go fun _ q => XS.lrem A.1.here A.2.2.2.2.1 rfl (hb A.2.2.2.2.2.1 hd) rfl hy (by rw [lrem_mod]; exact q)
theorem f_ineg (A : WS p l e R s m args below meth c Z EL n0 own code ml bw vm T h locs cells slots) {x : Int32} (hd : decode code pc = .ok (.ineg, 1)) (hp : pc + 1 = pc') (z : Int32) (hz : -x = z) (k : Wp p e below P T (mkF m pc' L (.int z :: S))) : Wp p e below P T (mkF m pc L (.int x :: S)) := by
  subst hp hz; exact k.go fun _ q => XS.ineg A.1.here A.2.2.2.2.1 rfl (hb A.2.2.2.2.2.1 hd) rfl q
theorem f_lneg (A : WS p l e R s m args below meth c Z EL n0 own code ml bw vm T h locs cells slots) {x : Int64} (hd : decode code pc = .ok (.lneg, 1)) (hp : pc + 1 = pc') (z : Int64) (hz : -x = z) (k : Wp p e below P T (mkF m pc' L (.long z :: S))) : Wp p e below P T (mkF m pc L (.long x :: S)) := by
  subst hp hz; exact k.go fun _ q => XS.lneg A.1.here A.2.2.2.2.1 rfl (hb A.2.2.2.2.2.1 hd) rfl q
theorem f_i2l (A : WS p l e R s m args below meth c Z EL n0 own code ml bw vm T h locs cells slots) {x : Int32} (hd : decode code pc = .ok (.i2l, 1)) (hp : pc + 1 = pc') (z : Int64) (hz : x.toInt64 = z) (k : Wp p e below P T (mkF m pc' L (.long z :: S))) : Wp p e below P T (mkF m pc L (.int x :: S)) := by
  subst hp hz; exact k.go fun _ q => XS.i2l A.1.here A.2.2.2.2.1 rfl (hb A.2.2.2.2.2.1 hd) rfl q
theorem f_l2i (A : WS p l e R s m args below meth c Z EL n0 own code ml bw vm T h locs cells slots) {x : Int64} (hd : decode code pc = .ok (.l2i, 1)) (hp : pc + 1 = pc') (z : Int32) (hz : x.toInt32 = z) (k : Wp p e below P T (mkF m pc' L (.int z :: S))) : Wp p e below P T (mkF m pc L (.long x :: S)) := by
  subst hp hz; exact k.go fun _ q => XS.l2i A.1.here A.2.2.2.2.1 rfl (hb A.2.2.2.2.2.1 hd) rfl q
theorem f_i2b (A : WS p l e R s m args below meth c Z EL n0 own code ml bw vm T h locs cells slots) {x : Int32} (hd : decode code pc = .ok (.i2b, 1)) (hp : pc + 1 = pc') (z : Int32) (hz : x.toInt8.toInt32 = z) (k : Wp p e below P T (mkF m pc' L (.int z :: S))) : Wp p e below P T (mkF m pc L (.int x :: S)) := by
  subst hp hz; exact k.go fun _ q => XS.i2b A.1.here A.2.2.2.2.1 rfl (hb A.2.2.2.2.2.1 hd) rfl q
theorem f_i2c (A : WS p l e R s m args below meth c Z EL n0 own code ml bw vm T h locs cells slots) {x : Int32} (hd : decode code pc = .ok (.i2c, 1)) (hp : pc + 1 = pc') (z : Int32) (hz : x.toUInt32.toUInt16.toUInt32.toInt32 = z) (k : Wp p e below P T (mkF m pc' L (.int z :: S))) : Wp p e below P T (mkF m pc L (.int x :: S)) := by
  subst hp hz; exact k.go fun _ q => XS.i2c A.1.here A.2.2.2.2.1 rfl (hb A.2.2.2.2.2.1 hd) rfl q
theorem f_i2s (A : WS p l e R s m args below meth c Z EL n0 own code ml bw vm T h locs cells slots) {x : Int32} (hd : decode code pc = .ok (.i2s, 1)) (hp : pc + 1 = pc') (z : Int32) (hz : x.toInt16.toInt32 = z) (k : Wp p e below P T (mkF m pc' L (.int z :: S))) : Wp p e below P T (mkF m pc L (.int x :: S)) := by
  subst hp hz; exact k.go fun _ q => XS.i2s A.1.here A.2.2.2.2.1 rfl (hb A.2.2.2.2.2.1 hd) rfl q
theorem f_lcmp (A : WS p l e R s m args below meth c Z EL n0 own code ml bw vm T h locs cells slots) {x y : Int64} (hd : decode code pc = .ok (.lcmp, 1)) (hp : pc + 1 = pc') (z : Int32) (hz : lcmpW x y = z) (k : Wp p e below P T (mkF m pc' L (.int z :: S))) : Wp p e below P T (mkF m pc L (.long y :: .long x :: S)) := by
  subst hp hz; exact k.go fun _ q => XS.lcmp A.1.here A.2.2.2.2.1 rfl (hb A.2.2.2.2.2.1 hd) rfl q
theorem f_iinc (A : WS p l e R s m args below meth c Z EL n0 own code ml bw vm T h locs cells slots) {i : Nat} {d : Int} {x : Int32} {L' : Array Slot} (hd : decode code pc = .ok (.iinc i d, 3)) (hp : pc + 3 = pc') (hl : L[i]? = some (.val (.int x))) (z : Int32) (hz : x + Int32.ofInt d = z) (hs : storeLocals L i (.int z) = some L') (k : Wp p e below P T (mkF m pc' L' S)) : Wp p e below P T (mkF m pc L S) := by
  subst hp hz; exact k.go fun _ q => XS.iinc A.1.here A.2.2.2.2.1 rfl (hb A.2.2.2.2.2.1 hd) hl hs q
theorem f_dup (A : WS p l e R s m args below meth c Z EL n0 own code ml bw vm T h locs cells slots) {x : Value} (hd : decode code pc = .ok (.dup, 1)) (hp : pc + 1 = pc') (hc : x.category = 1) (k : Wp p e below P T (mkF m pc' L (x :: x :: S))) : Wp p e below P T (mkF m pc L (x :: S)) := by
  subst hp; exact k.go fun _ q => XS.dup A.1.here A.2.2.2.2.1 rfl (hb A.2.2.2.2.2.1 hd) rfl hc q
theorem f_pop (A : WS p l e R s m args below meth c Z EL n0 own code ml bw vm T h locs cells slots) {x : Value} (hd : decode code pc = .ok (.pop, 1)) (hp : pc + 1 = pc') (hc : x.category = 1) (k : Wp p e below P T (mkF m pc' L S)) : Wp p e below P T (mkF m pc L (x :: S)) := by
  subst hp; exact k.go fun _ q => XS.pop A.1.here A.2.2.2.2.1 rfl (hb A.2.2.2.2.2.1 hd) rfl hc q
theorem f_dup_x1 (A : WS p l e R s m args below meth c Z EL n0 own code ml bw vm T h locs cells slots) {x y : Value} (hd : decode code pc = .ok (.dup_x1, 1)) (hp : pc + 1 = pc') (hc : x.category = 1) (hc' : y.category = 1) (k : Wp p e below P T (mkF m pc' L (x :: y :: x :: S))) : Wp p e below P T (mkF m pc L (x :: y :: S)) := by
  subst hp; exact k.go fun _ q => XS.dupX1 A.1.here A.2.2.2.2.1 rfl (hb A.2.2.2.2.2.1 hd) rfl hc hc' q
theorem f_goto (A : WS p l e R s m args below meth c Z EL n0 own code ml bw vm T h locs cells slots) {o : Int} (hd : decode code pc = .ok (.goto o, 3)) (ho : 0 ≤ (pc : Int) + o) (hp : ((pc : Int) + o).toNat = pc') (k : Wp p e below P T (mkF m pc' L S)) : Wp p e below P T (mkF m pc L S) := by
  exact k.go fun _ q => XS.goto A.1.here A.2.2.2.2.1 rfl (pc0 := pc) rfl (hb A.2.2.2.2.2.1 hd) ho hp q
theorem f_ifY (A : WS p l e R s m args below meth c Z EL n0 own code ml bw vm T h locs cells slots) {cd : ClassFile.Cond} {o : Int} {x : Int32} (hd : decode code pc = .ok (.ifCond cd o, 3)) (hc : ifCond.holds cd x = true) (ho : 0 ≤ (pc : Int) + o) (hp : ((pc : Int) + o).toNat = pc') (k : Wp p e below P T (mkF m pc' L S)) : Wp p e below P T (mkF m pc L (.int x :: S)) := by
  exact k.go fun _ q => XS.ifYes A.1.here A.2.2.2.2.1 rfl (pc0 := pc) rfl (hb A.2.2.2.2.2.1 hd) rfl hc ho hp q
theorem f_ifN (A : WS p l e R s m args below meth c Z EL n0 own code ml bw vm T h locs cells slots) {cd : ClassFile.Cond} {o : Int} {x : Int32} (hd : decode code pc = .ok (.ifCond cd o, 3)) (hc : ifCond.holds cd x = false) (hp : pc + 3 = pc') (k : Wp p e below P T (mkF m pc' L S)) : Wp p e below P T (mkF m pc L (.int x :: S)) := by
  subst hp; exact k.go fun _ q => XS.ifNo A.1.here A.2.2.2.2.1 rfl (hb A.2.2.2.2.2.1 hd) rfl hc q
theorem f_icY (A : WS p l e R s m args below meth c Z EL n0 own code ml bw vm T h locs cells slots) {cd : ClassFile.Cond} {o : Int} {x y : Int32} (hd : decode code pc = .ok (.if_icmp cd o, 3)) (hc : if_icmp.holds cd x y = true) (ho : 0 ≤ (pc : Int) + o) (hp : ((pc : Int) + o).toNat = pc') (k : Wp p e below P T (mkF m pc' L S)) : Wp p e below P T (mkF m pc L (.int y :: .int x :: S)) := by
  exact k.go fun _ q => XS.icmpYes A.1.here A.2.2.2.2.1 rfl (pc0 := pc) rfl (hb A.2.2.2.2.2.1 hd) rfl hc ho hp q
theorem f_icN (A : WS p l e R s m args below meth c Z EL n0 own code ml bw vm T h locs cells slots) {cd : ClassFile.Cond} {o : Int} {x y : Int32} (hd : decode code pc = .ok (.if_icmp cd o, 3)) (hc : if_icmp.holds cd x y = false) (hp : pc + 3 = pc') (k : Wp p e below P T (mkF m pc' L S)) : Wp p e below P T (mkF m pc L (.int y :: .int x :: S)) := by
  subst hp; exact k.go fun _ q => XS.icmpNo A.1.here A.2.2.2.2.1 rfl (hb A.2.2.2.2.2.1 hd) rfl hc q
theorem f_nullY (A : WS p l e R s m args below meth c Z EL n0 own code ml bw vm T h locs cells slots) {o : Int} (hd : decode code pc = .ok (.ifnull o, 3)) (ho : 0 ≤ (pc : Int) + o) (hp : ((pc : Int) + o).toNat = pc') (k : Wp p e below P T (mkF m pc' L S)) : Wp p e below P T (mkF m pc L (.null :: S)) := by
  exact k.go fun _ q => XS.ifnullYes A.1.here A.2.2.2.2.1 rfl (pc0 := pc) rfl (hb A.2.2.2.2.2.1 hd) rfl ho hp q
theorem f_nullN (A : WS p l e R s m args below meth c Z EL n0 own code ml bw vm T h locs cells slots) {o : Int} {b : Addr} (hd : decode code pc = .ok (.ifnull o, 3)) (hp : pc + 3 = pc') (k : Wp p e below P T (mkF m pc' L S)) : Wp p e below P T (mkF m pc L (.ref b :: S)) := by
  subst hp; exact k.go fun _ q => XS.ifnullNo A.1.here A.2.2.2.2.1 rfl (hb A.2.2.2.2.2.1 hd) rfl q
theorem f_nonY (A : WS p l e R s m args below meth c Z EL n0 own code ml bw vm T h locs cells slots) {o : Int} {b : Addr} (hd : decode code pc = .ok (.ifnonnull o, 3)) (ho : 0 ≤ (pc : Int) + o) (hp : ((pc : Int) + o).toNat = pc') (k : Wp p e below P T (mkF m pc' L S)) : Wp p e below P T (mkF m pc L (.ref b :: S)) := by
  exact k.go fun _ q => XS.ifnonnullYes A.1.here A.2.2.2.2.1 rfl (pc0 := pc) rfl (hb A.2.2.2.2.2.1 hd) rfl ho hp q
theorem f_nonN (A : WS p l e R s m args below meth c Z EL n0 own code ml bw vm T h locs cells slots) {o : Int} (hd : decode code pc = .ok (.ifnonnull o, 3)) (hp : pc + 3 = pc') (k : Wp p e below P T (mkF m pc' L S)) : Wp p e below P T (mkF m pc L (.null :: S)) := by
  subst hp; exact k.go fun _ q => XS.ifnonnullNo A.1.here A.2.2.2.2.1 rfl (hb A.2.2.2.2.2.1 hd) rfl q
theorem f_acmp (A : WS p l e R s m args below meth c Z EL n0 own code ml bw vm T h locs cells slots) {cd : ACond} {o : Int} {x y : Value} (h1 : x.isRef = true) (h2 : y.isRef = true) (hd : decode code pc = .ok (.if_acmp cd o, 3)) (same : Bool) (hq : decide (x = y) = same) (ho : 0 ≤ (pc : Int) + o) (hp : pc' = if acV cd same = true then ((pc : Int) + o).toNat else pc + 3) (k : Wp p e below P T (mkF m pc' L S)) : Wp p e below P T (mkF m pc L (y :: x :: S)) := by
  exact k.go fun _ q => Jvm.RoadKit.acmp A.1 A.2.2.2.2.1 rfl h1 h2 (pc0 := pc) rfl (hb A.2.2.2.2.2.1 hd) rfl hq ho hp q
theorem f_new (A : WS p l e R s m args below meth c Z EL n0 own code ml bw vm T h locs cells slots) {C : String} {i n : Nat} (hd : decode code pc = .ok (.new i, 3)) (hp : pc + 3 = pc') (w : (Cond.classLink own i C).before a0 Z = true) (wi : (Cond.instantiable C n).before a0 Z = true) (wz : (Cond.initialized C).before a0 Z = true) (hc : cells + 1 ≤ R.cells) (hl : slots + n ≤ R.slots)
    (k : ∀ (a : Addr) (T' : State) (h' : Heap), a = h.size → WS p l e R s m args below meth c Z EL n0 own code ml bw vm T' h' locs (cells + 1) (slots + n) → Ext h h' → Exa Z h' a C → (∀ {O nm d : String} {ty : FieldType}, Laid Z a0 C O nm d → parseFieldDescriptor d = some ty → Fld Z h' a O nm d (defaultValue ty)) → Wp p e below P T' (mkF m pc' L (.ref a :: S))) : Wp p e below P T (mkF m pc L S) := by
  subst hp
  obtain ⟨T', h', X', q, E, F, D, -, st⟩ := newO A.1 A.2.2.2.2.1 A.hZ A.2.2.2.1 w wi wz A.2.1 (g := mkF m pc L S) rfl (hb A.2.2.2.2.2.1 hd) hc hl
  exact (k _ T' h' rfl (A.grow X' q E) E F D).go st
theorem f_newP (A : WS p l e R s m args below meth c Z EL n0 own code ml bw vm T h locs cells slots) {aty : ArrayType} {z : Int32} (cap : Nat) (hd : decode code pc = .ok (.newarray aty, 2)) (hp : pc + 2 = pc') (w : (Cond.arrayClass (newarray.typeOf aty)).before a0 Z = true) (hn : ¬ z < 0) (hcap : z.toNatClampNeg ≤ cap) (hb8 : cap * 8 ≤ 536870912) (hc : cells + 1 ≤ R.cells) (hl : slots + cap ≤ R.slots) {ad : String} (had : "[" ++ (newarray.typeOf aty).toString = ad)
    (k : ∀ (a : Addr) (T' : State) (h' : Heap) (kA : ClassId), a = h.size → WS p l e R s m args below meth c Z EL n0 own code ml bw vm T' h' locs (cells + 1) (slots + cap) → Ext h h' → Arv Z h' a kA (newarray.typeOf aty) z [] (defaultValue (newarray.typeOf aty)) → Exa Z h' a ad → Wp p e below P T' (mkF m pc' L (.ref a :: S))) : Wp p e below P T (mkF m pc L (.int z :: S)) := by
  subst hp
  obtain ⟨T', h', kA, X', q, E, F, G, st⟩ := newPE A.1 A.2.2.2.2.1 A.hZ w A.2.1 (g := mkF m pc L (.int z :: S)) rfl (hb A.2.2.2.2.2.1 hd) rfl hn hcap hb8 hc hl had
  exact (k _ T' h' kA rfl (A.grow X' q E) E (Arv.new F hn) G).go st
theorem f_getF (A : WS p l e R s m args below meth c Z EL n0 own code ml bw vm T h locs cells slots) {R0 O n d host : String} {i : Nat} {a : Addr} {v : Value} (hd : decode code pc = .ok (.getfield i, 3)) (hp : pc + 3 = pc') (w : (Cond.fieldLink own i R0 n d).before a0 Z = true ∨ (Cond.fieldLinkNest own i R0 n d host).before a0 Z = true) (via : Via Z R0 O n d) (F : Fld Z h a O n d v)
    (k : ∀ (T' : State), WS p l e R s m args below meth c Z EL n0 own code ml bw vm T' h locs cells slots → Wp p e below P T' (mkF m pc' L (v :: S))) : Wp p e below P T (mkF m pc L (.ref a :: S)) := by
  subst hp
  obtain ⟨T', X', q, st⟩ := getF A.1 A.2.2.2.2.1 A.hZ A.2.2.2.1 w via A.2.1 F (g := mkF m pc L (.ref a :: S)) rfl rfl (hb A.2.2.2.2.2.1 hd)
  exact (k T' (A.still X' q)).go st
theorem f_getS (A : WS p l e R s m args below meth c Z EL n0 own code ml bw vm T h locs cells slots) {R0 O n d host : String} {i : Nat} {v : Value} (hd : decode code pc = .ok (.getstatic i, 3)) (hp : pc + 3 = pc') (w : (Cond.fieldLink own i R0 n d).before a0 Z = true ∨ (Cond.fieldLinkNest own i R0 n d host).before a0 Z = true) (via : Via Z R0 O n d) (F : Sta Z Z.heap O n d v)
    (k : ∀ (T' : State), WS p l e R s m args below meth c Z EL n0 own code ml bw vm T' h locs cells slots → Wp p e below P T' (mkF m pc' L (v :: S))) : Wp p e below P T (mkF m pc L S) := by
  subst hp
  obtain ⟨T', X', q, st⟩ := getS2 A.1 A.2.2.2.2.1 A.hZ A.2.2.2.1 w via A.2.1 (F.ext A.old.2) (g := mkF m pc L S) rfl (hb A.2.2.2.2.2.1 hd)
  exact (k T' (A.still X' q)).go st
theorem f_putF (A : WS p l e R s m args below meth c Z EL n0 own code ml bw vm T h locs cells slots) {R0 O n d C : String} {i kk : Nat} {ty : FieldType} {a : Addr} {v old : Value} (v' : Value) (hd : decode code pc = .ok (.putfield i, 3)) (hp : pc + 3 = pc') (w : (Cond.fieldLink own i R0 n d).before a0 Z = true) (via : Via Z R0 O n d) (F : Fld Z h a O n d old) (E : Exa Z h a C)
    (wl : (Cond.lays C O n d).before a0 Z = true ∨ ((Cond.laysFinal C O n d).before a0 Z = true ∧ own = O ∧ meth.name = "<init>")) (wi : (Cond.instantiable C kk).before a0 Z = true) (hty : parseFieldDescriptor d = some ty) (hn : narrow ty v = v') (hf : fits ty v' = true) (ga : n0 ≤ a) (sf : bw = true → Safe Z EL vm h a)
    (k : ∀ (T' : State) (h' : Heap), WS p l e R s m args below meth c Z EL n0 own code ml bw vm T' h' (locs ++ [⟨a, Jvm.RoadKit.slotOf Z O n d⟩]) cells slots → Wr h h' a (Jvm.RoadKit.slotOf Z O n d) v' → Keep h h' [a] → Exa Z h' a C → Fld Z h' a O n d v' → Wp p e below P T' (mkF m pc' L S)) : Wp p e below P T (mkF m pc L (v :: .ref a :: S)) := by
  subst hp
  obtain ⟨T', h', X', q, W, st⟩ := putFN A.1 A.2.2.2.2.1 A.hZ A.2.2.2.1 w via A.2.1 F E wl wi hty hn hf (g := mkF m pc L (v :: .ref a :: S)) rfl rfl (hb A.2.2.2.2.2.1 hd)
  exact (k T' h' (A.kept X' q (Fr.snoc X' A.2.2.2.2.2.2.2.1 ga) (Keep.of_wr W) (allS ga all0) (fun b => sfS (sf b) sf0)) W (Keep.of_wr W) (E.wr W) (F.same W)).go st
theorem f_castore (A : WS p l e R s m args below meth c Z EL n0 own code ml bw vm T h locs cells slots) {a : Addr} {kA : ClassId} {z j x : Int32} {vs vs' : List Value} {dv : Value} (hd : decode code pc = .ok (.castore, 1)) (hp : pc + 1 = pc') (F : Arv Z h a kA .char z vs dv) (hj : ¬ j < 0 ∧ j < z) (i : Nat) (hi : j.toNatClampNeg = i) (hl : i < vs.length) (v : Int32) (hv : nar .char x = v) (hs : vs.set i (.int v) = vs') (ga : n0 ≤ a) (sf : bw = true → Safe Z EL vm h a)
    (k : ∀ (T' : State) (h' : Heap), WS p l e R s m args below meth c Z EL n0 own code ml bw vm T' h' (locs ++ [⟨a, j.toNatClampNeg⟩]) cells slots → Keep h h' [a] → Arv Z h' a kA .char z vs' dv → Wp p e below P T' (mkF m pc' L S)) : Wp p e below P T (mkF m pc L (.int x :: .int j :: .ref a :: S)) := by
  subst hp hs hv
  obtain ⟨cl, Ar, q1, Sz, q3, H, G⟩ := F
  obtain ⟨T', h', X', q, W, st⟩ := stC A.1 A.2.2.2.2.1 A.hZ A.2.1 Ar (j := j) (inb_of Sz hj) (g := mkF m pc L (.int x :: .int j :: .ref a :: S)) rfl rfl (hb A.2.2.2.2.2.1 hd)
  exact (k T' h' (A.kept X' q (Fr.snoc X' A.2.2.2.2.2.2.2.1 ga) (Keep.of_wr W) (allS ga all0) (fun b => sfS (sf b) sf0)) (Keep.of_wr W) (Arv.set Ar q1 Sz q3 H G (fits_nar_char x) W i hi hl)).go st
theorem f_bastore (A : WS p l e R s m args below meth c Z EL n0 own code ml bw vm T h locs cells slots) {a : Addr} {kA : ClassId} {z j x : Int32} {vs vs' : List Value} {dv : Value} (hd : decode code pc = .ok (.bastore, 1)) (hp : pc + 1 = pc') (F : Arv Z h a kA .byte z vs dv) (hj : ¬ j < 0 ∧ j < z) (i : Nat) (hi : j.toNatClampNeg = i) (hl : i < vs.length) (v : Int32) (hv : x.toInt8.toInt32 = v) (hs : vs.set i (.int v) = vs') (ga : n0 ≤ a) (sf : bw = true → Safe Z EL vm h a)
    (k : ∀ (T' : State) (h' : Heap), WS p l e R s m args below meth c Z EL n0 own code ml bw vm T' h' (locs ++ [⟨a, j.toNatClampNeg⟩]) cells slots → Keep h h' [a] → Arv Z h' a kA .byte z vs' dv → Wp p e below P T' (mkF m pc' L S)) : Wp p e below P T (mkF m pc L (.int x :: .int j :: .ref a :: S)) := by
  subst hp hs hv
  obtain ⟨cl, Ar, q1, Sz, q3, H, G⟩ := F
  obtain ⟨T', h', X', q, W, st⟩ := stB A.1 A.2.2.2.2.1 A.hZ A.2.1 Ar (j := j) (inb_of Sz hj) (g := mkF m pc L (.int x :: .int j :: .ref a :: S)) rfl rfl (hb A.2.2.2.2.2.1 hd)
  exact (k T' h' (A.kept X' q (Fr.snoc X' A.2.2.2.2.2.2.2.1 ga) (Keep.of_wr W) (allS ga all0) (fun b => sfS (sf b) sf0)) (Keep.of_wr W) (Arv.set Ar q1 Sz q3 H G (fits_nar_byte x) W i hi hl)).go st
theorem f_iastore (A : WS p l e R s m args below meth c Z EL n0 own code ml bw vm T h locs cells slots) {a : Addr} {kA : ClassId} {z j x : Int32} {vs vs' : List Value} {dv : Value} (hd : decode code pc = .ok (.iastore, 1)) (hp : pc + 1 = pc') (F : Arv Z h a kA .int z vs dv) (hj : ¬ j < 0 ∧ j < z) (i : Nat) (hi : j.toNatClampNeg = i) (hl : i < vs.length) (v : Int32) (hv : x = v) (hs : vs.set i (.int v) = vs') (ga : n0 ≤ a) (sf : bw = true → Safe Z EL vm h a)
    (k : ∀ (T' : State) (h' : Heap), WS p l e R s m args below meth c Z EL n0 own code ml bw vm T' h' (locs ++ [⟨a, j.toNatClampNeg⟩]) cells slots → Keep h h' [a] → Arv Z h' a kA .int z vs' dv → Wp p e below P T' (mkF m pc' L S)) : Wp p e below P T (mkF m pc L (.int x :: .int j :: .ref a :: S)) := by
  subst hp hs hv
  obtain ⟨cl, Ar, q1, Sz, q3, H, G⟩ := F
  obtain ⟨T', h', X', q, W, st⟩ := stI A.1 A.2.2.2.2.1 A.hZ A.2.1 Ar (j := j) (inb_of Sz hj) (g := mkF m pc L (.int x :: .int j :: .ref a :: S)) rfl rfl (hb A.2.2.2.2.2.1 hd)
  exact (k T' h' (A.kept X' q (Fr.snoc X' A.2.2.2.2.2.2.2.1 ga) (Keep.of_wr W) (allS ga all0) (fun b => sfS (sf b) sf0)) (Keep.of_wr W) (Arv.set Ar q1 Sz q3 H G rfl W i hi hl)).go st
theorem f_caload (A : WS p l e R s m args below meth c Z EL n0 own code ml bw vm T h locs cells slots) {a : Addr} {kA : ClassId} {z j : Int32} {vs : List Value} {dv v : Value} (hd : decode code pc = .ok (.caload, 1)) (hp : pc + 1 = pc') (F : Arv Z h a kA .char z vs dv) (hj : ¬ j < 0 ∧ j < z) (hv : vs.getD j.toNatClampNeg dv = v) (k : Wp p e below P T (mkF m pc' L (v :: S))) : Wp p e below P T (mkF m pc L (.int j :: .ref a :: S)) := by
  subst hp
  obtain ⟨cl, Ar, q1, Sz, q3, H, G⟩ := F
  exact k.go fun t q => A.1.caload A.2.2.2.2.1 (j := j) (v := v) (by rw [A.2.1]; exact Ar.1) (State.isArrayOf_alike A.hZ.alike Ar.2.1) Ar.2.2 (inb_of Sz hj) (H.at (inb_of Sz hj) hv) (g := mkF m pc L (.int j :: .ref a :: S)) rfl rfl (hb A.2.2.2.2.2.1 hd) t q
theorem f_baload (A : WS p l e R s m args below meth c Z EL n0 own code ml bw vm T h locs cells slots) {a : Addr} {kA : ClassId} {z j : Int32} {vs : List Value} {dv v : Value} (hd : decode code pc = .ok (.baload, 1)) (hp : pc + 1 = pc') (F : Arv Z h a kA .byte z vs dv) (hj : ¬ j < 0 ∧ j < z) (hv : vs.getD j.toNatClampNeg dv = v) (k : Wp p e below P T (mkF m pc' L (v :: S))) : Wp p e below P T (mkF m pc L (.int j :: .ref a :: S)) := by
  subst hp
  obtain ⟨cl, Ar, q1, Sz, q3, H, G⟩ := F
  exact k.go fun t q => A.1.baloadBytes A.2.2.2.2.1 (j := j) (v := v) (by rw [A.2.1]; exact Ar.1) (State.isArrayOf_alike A.hZ.alike Ar.2.1) Ar.2.2 (inb_of Sz hj) (H.at (inb_of Sz hj) hv) (g := mkF m pc L (.int j :: .ref a :: S)) rfl rfl (hb A.2.2.2.2.2.1 hd) t q
theorem f_iaload (A : WS p l e R s m args below meth c Z EL n0 own code ml bw vm T h locs cells slots) {a : Addr} {kA : ClassId} {z j : Int32} {vs : List Value} {dv v : Value} (hd : decode code pc = .ok (.iaload, 1)) (hp : pc + 1 = pc') (F : Arv Z h a kA .int z vs dv) (hj : ¬ j < 0 ∧ j < z) (hv : vs.getD j.toNatClampNeg dv = v) (k : Wp p e below P T (mkF m pc' L (v :: S))) : Wp p e below P T (mkF m pc L (.int j :: .ref a :: S)) := by
  subst hp
  obtain ⟨cl, Ar, q1, Sz, q3, H, G⟩ := F
  exact k.go fun t q => A.1.iaload A.2.2.2.2.1 (j := j) (v := v) (by rw [A.2.1]; exact Ar.1) (State.isArrayOf_alike A.hZ.alike Ar.2.1) Ar.2.2 (inb_of Sz hj) (H.at (inb_of Sz hj) hv) (g := mkF m pc L (.int j :: .ref a :: S)) rfl rfl (hb A.2.2.2.2.2.1 hd) t q
theorem f_aaload (A : WS p l e R s m args below meth c Z EL n0 own code ml bw vm T h locs cells slots) {a : Addr} {kA : ClassId} {z j : Int32} {vs : List Value} {dv v : Value} {ty : FieldType} (hd : decode code pc = .ok (.aaload, 1)) (hp : pc + 1 = pc') (F : Arv Z h a kA ty z vs dv) (ht : ty.isReference = true) (hj : ¬ j < 0 ∧ j < z) (hv : vs.getD j.toNatClampNeg dv = v) (k : Wp p e below P T (mkF m pc' L (v :: S))) : Wp p e below P T (mkF m pc L (.int j :: .ref a :: S)) := by
  subst hp
  obtain ⟨cl, Ar, q1, Sz, q3, H, G⟩ := F
  exact k.go fun t q => A.1.aaload A.2.2.2.2.1 (j := j) (v := v) (by rw [A.2.1]; exact Ar.1) (State.isArrayOf_alike A.hZ.alike Ar.2.1) ht Ar.2.2 (inb_of Sz hj) (H.at (inb_of Sz hj) hv) (g := mkF m pc L (.int j :: .ref a :: S)) rfl rfl (hb A.2.2.2.2.2.1 hd) t q
theorem f_arraylength (A : WS p l e R s m args below meth c Z EL n0 own code ml bw vm T h locs cells slots) {a : Addr} {kA : ClassId} {z : Int32} {vs : List Value} {dv : Value} {ty : FieldType} (hd : decode code pc = .ok (.arraylength, 1)) (hp : pc + 1 = pc') (F : Arv Z h a kA ty z vs dv) (k : Wp p e below P T (mkF m pc' L (.int z :: S))) : Wp p e below P T (mkF m pc L (.ref a :: S)) := by
  subst hp
  obtain ⟨cl, Ar, q1, Sz, q3, -, -⟩ := F
  exact k.go fun t q => A.1.arraylength A.2.2.2.2.1 (by rw [A.2.1]; exact Ar.1) (State.isArrayOf_alike A.hZ.alike Ar.2.1) (g := mkF m pc L (.ref a :: S)) rfl rfl (hb A.2.2.2.2.2.1 hd) t (by rw [len_of Sz q3]; exact q)
theorem f_cast (A : WS p l e R s m args below meth c Z EL n0 own code ml bw vm T h locs cells slots) {K : String} {i : Nat} {a : Addr} (hd : decode code pc = .ok (.checkcast i, 3)) (hp : pc + 3 = pc') (w : (Cond.classLink own i K).before a0 Z = true) (F : Ins Z h a K true) (k : ∀ (T' : State), WS p l e R s m args below meth c Z EL n0 own code ml bw vm T' h locs cells slots → Wp p e below P T' (mkF m pc' L (.ref a :: S))) : Wp p e below P T (mkF m pc L (.ref a :: S)) := by
  subst hp
  obtain ⟨T', X', q, st⟩ := castY A.1 A.2.2.2.2.1 A.hZ A.2.2.2.1 w A.2.1 F (g := mkF m pc L (.ref a :: S)) rfl rfl (hb A.2.2.2.2.2.1 hd)
  exact (k T' (A.still X' q)).go st
theorem f_instY (A : WS p l e R s m args below meth c Z EL n0 own code ml bw vm T h locs cells slots) {K : String} {i : Nat} {a : Addr} (hd : decode code pc = .ok (.instanceof i, 3)) (hp : pc + 3 = pc') (w : (Cond.classLink own i K).before a0 Z = true) (F : Ins Z h a K true) (k : ∀ (T' : State), WS p l e R s m args below meth c Z EL n0 own code ml bw vm T' h locs cells slots → Wp p e below P T' (mkF m pc' L (.int 1 :: S))) : Wp p e below P T (mkF m pc L (.ref a :: S)) := by
  subst hp
  obtain ⟨T', X', q, st⟩ := instY A.1 A.2.2.2.2.1 A.hZ A.2.2.2.1 w A.2.1 F (g := mkF m pc L (.ref a :: S)) rfl rfl (hb A.2.2.2.2.2.1 hd)
  exact (k T' (A.still X' q)).go st
theorem f_initO (A : WS p l e R s m args below meth c Z EL n0 own code ml bw vm T h locs cells slots) {i W : Nat} {a : Addr} (hd : decode code pc = .ok (.invokespecial i, 3)) (hp : pc + 3 = pc') (w1 : (Cond.methodLink own i Lib.objectInit).before a0 Z = true) (w2 : (Cond.instanceMethod Lib.objectInit).before a0 Z = true) (w3 : (Cond.code Lib.objectInit ⟨#[0xb1]⟩ 1 none).before a0 Z = true) (hml : L.size = ml) (hf : 1 ≤ R.frames) (hW : (S.map fun v => v.category).sum ≤ W) (hl : W + 12 ≤ R.locals)
    (k : ∀ (T' : State), WS p l e R s m args below meth c Z EL n0 own code ml bw vm T' h locs cells slots → Wp p e below P T' (mkF m pc' L S)) : Wp p e below P T (mkF m pc L (.ref a :: S)) := by
  subst hp
  obtain ⟨T', X', q, st⟩ := initO A.1 A.2.2.2.2.1 A.hZ A.2.2.2.1 w1 w2 w3 A.2.1 (g := mkF m pc L (.ref a :: S)) rfl (hml.trans A.2.2.2.2.2.2.1.symm) rfl (hb A.2.2.2.2.2.1 hd) hf (W := W) (by show 2 * 0 + _ ≤ _; omega) hl
  exact (k T' (A.still X' q)).go st
theorem WS.wide (A : WS p l e R s m args below meth c Z EL n0 own code ml true vm T h locs cells slots) : (∃ k, s.Since vm k ∧ k ≤ h.size) ∧ CHr Z EL s.vm s.heap vm h := by
  obtain ⟨-, -, -, -, -, -, -, -, -, b⟩ := A
  rcases b with ⟨b, -⟩ | ⟨-, b⟩
  · cases b
  · exact b
theorem f_ldcO (A : WS p l e R s m args below meth c Z EL n0 own code ml true vm T h locs cells slots) {i : Nat} {text : String} (hd : decode code pc = .ok (.ldc i, 2)) (hp : pc + 2 = pc') (w : (Cond.stringLink own i text).before a0 Z = true) (wS : ∀ a ∈ Bundle.stringAtoms, a.before a0 Z = true) (hEL : EW Z a0 EL) {n : Nat} (hn : 4 * text.toList.length ≤ n) (hbig : n ≤ 536870912) (hc : cells + 2 ≤ R.cells) (hl' : slots + (n + 4) ≤ R.slots)
    (k : ∀ (a : Addr) (vm' : Vm) (T' : State) (h' : Heap), WS p l e R s m args below meth c Z EL n0 own code ml true vm' T' h' locs (cells + 2) (slots + (n + 4)) → Ext h h' → CHr Z EL vm h vm' h' → Lit (s.setVm vm') own i a → Wp p e below P T' (mkF m pc' L (.ref a :: S))) : Wp p e below P T (mkF m pc L S) := by
  subst hp
  obtain ⟨⟨k0, hS, hk⟩, hC⟩ := A.wide
  obtain ⟨a, T', h', k1, X', q, E, hS', hk', hZ', ho', hC', hL, st⟩ := ldcOH A.1 A.2.2.2.2.1 A.hZ A.2.2.2.1 w wS A.2.1 hS hk hEL hC.1 (g := mkF m pc L S) rfl (hb A.2.2.2.2.2.1 hd) hn hbig hc hl'
  exact (k a T'.vm T' h' ⟨X', q, hZ', ho', A.2.2.2.2.1, A.2.2.2.2.2.1, A.2.2.2.2.2.2.1, A.2.2.2.2.2.2.2.1, A.old.ext E, Or.inr ⟨rfl, ⟨k1, hS', hk'⟩, hC.trans hC'⟩⟩ E hC' hL).go st
theorem f_ldcC (A : WS p l e R s m args below meth c Z EL n0 own code ml true vm T h locs cells slots) {i : Nat} {text : String} {vs : List Value} {z : Int32} (hd : decode code pc = .ok (.ldc i, 2)) (hp : pc + 2 = pc') (hmem : (own, i) ∈ EL) (ht : (∀ c ∈ text.toList, c.toNat < 256) ∧ text.toList.map (fun c => Value.int (Jvm.Lit.byteI c.toNat.toUInt16)) = vs) (hz : ¬ z < 0) (hl : z.toNatClampNeg = vs.length) (w : (Cond.stringLink own i text).before a0 Z = true) (wS : ∀ a ∈ Bundle.stringAtoms, a.before a0 Z = true) (hEL : EW Z a0 EL) {n : Nat} (hn : 4 * text.toList.length ≤ n) (hbig : n ≤ 536870912) (hc : cells + 2 ≤ R.cells) (hl' : slots + (n + 4) ≤ R.slots)
    (k : ∀ (a b : Addr) (kb : ClassId) (vm' : Vm) (T' : State) (h' : Heap), WS p l e R s m args below meth c Z EL n0 own code ml true vm' T' h' locs (cells + 2) (slots + (n + 4)) → Ext h h' → CHr Z EL vm h vm' h' → Lit (s.setVm vm') own i a → Exa Z h' a "java/lang/String" → Fld Z h' a "java/lang/String" "coder" "B" (.int 0) → Fld Z h' a "java/lang/String" "value" "[B" (.ref b) → Arv Z h' b kb .byte z vs (.int 0) → (∀ x, Safe Z EL vm' h' x → x ≠ a ∧ x ≠ b) → Wp p e below P T' (mkF m pc' L (.ref a :: S))) : Wp p e below P T (mkF m pc L S) := by
  subst hp
  obtain ⟨⟨k0, hS, hk⟩, hC⟩ := A.wide
  obtain ⟨a, T', h', k1, b, kb, X', q, E, hS', hk', hZ', ho', g1, g2, g3, g4, -, -, hC', hL, hsf, st⟩ := ldcCH A.1 A.2.2.2.2.1 A.hZ A.2.2.2.1 w wS A.2.1 hS hk hEL hmem hC.1 ht hz hl (g := mkF m pc L S) rfl (hb A.2.2.2.2.2.1 hd) hn hbig hc hl'
  exact (k a b kb T'.vm T' h' ⟨X', q, hZ', ho', A.2.2.2.2.1, A.2.2.2.2.2.1, A.2.2.2.2.2.2.1, A.2.2.2.2.2.2.2.1, A.old.ext E, Or.inr ⟨rfl, ⟨k1, hS', hk'⟩, hC.trans hC'⟩⟩ E hC' hL g1 g2 g3 g4 hsf).go st
theorem f_ldcA (A : WS p l e R s m args below meth c Z EL n0 own code ml true vm T h locs cells slots) {i : Nat} {text : String} {a : Addr} (hd : decode code pc = .ok (.ldc i, 2)) (hp : pc + 2 = pc') (w : (Cond.stringLink own i text).before a0 Z = true) (hL : Lit (s.setVm vm) own i a) (k : Wp p e below P T (mkF m pc' L (.ref a :: S))) : Wp p e below P T (mkF m pc L S) := by
  subst hp
  exact k.go fun t q => ldcAgain A.1 A.2.2.2.2.1 A.hZ A.2.2.2.1 w hL (g := mkF m pc L S) rfl (hb A.2.2.2.2.2.1 hd) t q
/-- what a body that interns nothing promises -/
abbrev CN (l : Launch) (y : MethodName) (bytes : ByteArray) (maxL : Nat) (ret : Option FieldType) (ws : List Jvm.Cond) (rm : Room) (Z : State) (n0 : Nat) (h : Heap) (as' : Array Value) (wr : List Addr) (Q : Option Value → Heap → Prop) : Prop :=
  MetFree l y (head1 (Jvm.Cond.code y bytes maxL ret :: ws) rm) (fun a U => a = as' ∧ Z.Warmed39 U.vm ∧ U.heap = h) (fun _ _ _ _ _ => True) (fun _ U o U' => ∃ v L, o = .returned v ∧ (Fr n0 L ∧ Keep h U'.heap wr ∧ Q v U'.heap) ∧ FrameEnd U o U' L rm.cells rm.slots)
/-- what a body that may intern promises; SL: what it writes of the booked kinds -/
abbrev CW (l : Launch) (y : MethodName) (bytes : ByteArray) (maxL : Nat) (ret : Option FieldType) (ws : List Jvm.Cond) (rm : Room) (Z : State) (EL : List (String × Nat)) (SL : List Addr) (n0 : Nat) (h : Heap) (as' : Array Value) (wr : List Addr) (Q : Option Value → Heap → Prop) : Prop :=
  MetFree l y (head1 (Jvm.Cond.code y bytes maxL ret :: ws) rm) (fun a U => a = as' ∧ Z.Warmed39 U.vm ∧ U.heap = h ∧ CHv Z EL U.vm h ∧ ∀ x ∈ SL, Safe Z EL U.vm h x) (fun _ _ _ _ _ => True) (fun _ U o U' => ∃ v L, o = .returned v ∧ (Fr n0 L ∧ Keep h U'.heap wr ∧ Q v U'.heap) ∧ CHr Z EL U.vm U.heap U'.vm U'.heap ∧ ReturnedEndW U o U' L rm.cells rm.slots)
abbrev PN (s : State) (n0 : Nat) (h : Heap) (wr : List Addr) (Q : Option Value → Heap → Prop) (kc ks : Nat) : Outcome → State → Prop := fun o t => ∃ v L, o = .returned v ∧ (Fr n0 L ∧ Keep h t.heap wr ∧ Q v t.heap) ∧ FrameEnd s o t L kc ks
abbrev PW (s Z : State) (EL : List (String × Nat)) (n0 : Nat) (h : Heap) (wr : List Addr) (Q : Option Value → Heap → Prop) (kc ks : Nat) : Outcome → State → Prop := fun o t => ∃ v L, o = .returned v ∧ (Fr n0 L ∧ Keep h t.heap wr ∧ Q v t.heap) ∧ CHr Z EL s.vm s.heap t.vm t.heap ∧ ReturnedEndW s o t L kc ks
/-- the walk of a body that interns nothing -/
theorem CN.walk {y : MethodName} {bytes : ByteArray} {maxL : Nat} {ret : Option FieldType} {ws : List Jvm.Cond} {rm : Room} {h0 : Heap} {as' : Array Value} {wr : List Addr} {Q : Option Value → Heap → Prop} {L0 : Array Slot} (hpl : plainFor y = true) (ho : Old Z n0 h0) (hef : ∀ m, entryFrame m as' maxL = mkF m 0 L0 [])
    (k : ∀ p e s m below meth c T, meth.locks = false → meth.sig.returnType = ret → meth.name = y.name → WS p l e rm s m as' below meth c Z [] n0 y.cls bytes maxL false s.vm T h0 [] 0 0 → Wp p e below (PN s n0 h0 wr Q rm.cells rm.slots) T (mkF m 0 L0 [])) : CN l y bytes maxL ret ws rm Z n0 h0 as' wr Q := by
  refine MetFree.of_bodySF hpl hisR ?_
  intro p e s m args below meth c s₁ Bd hml0 hP hK
  obtain ⟨rfl, hZ, hh⟩ := hP
  have X0 : Stand p l e rm s m args below meth c s₁ [] 0 0 := Stand.of_body Bd
  obtain ⟨s₂, o, a1, a2⟩ := k p e s m below meth c s₁ (BodyLoose.notSynchronized Bd) Bd.returns (name_of_methodNamed Bd.named Bd.method).1 ⟨X0, by rw [← hh, Bd.state]; rfl, hZ, findClass_of_methodNamed Bd.named, Bd.exec, Bd.bytes, hml0, Fr.nil n0, ho, Or.inl ⟨rfl, rfl⟩⟩
  exact ⟨s₂, o, castTop (hef m) a1, a2⟩
/-- the walk of a body that may intern -/
theorem CW.walk {y : MethodName} {bytes : ByteArray} {maxL : Nat} {ret : Option FieldType} {ws : List Jvm.Cond} {rm : Room} {h0 : Heap} {as' : Array Value} {wr SL : List Addr} {Q : Option Value → Heap → Prop} {L0 : Array Slot} (hpl : plainFor y = true) (ho : Old Z n0 h0) (hef : ∀ m, entryFrame m as' maxL = mkF m 0 L0 [])
    (k : ∀ p e s m below meth c T, meth.locks = false → meth.sig.returnType = ret → meth.name = y.name → (∀ x ∈ SL, Safe Z EL s.vm h0 x) → WS p l e rm s m as' below meth c Z EL n0 y.cls bytes maxL true s.vm T h0 [] 0 0 → Wp p e below (PW s Z EL n0 h0 wr Q rm.cells rm.slots) T (mkF m 0 L0 [])) : CW l y bytes maxL ret ws rm Z EL SL n0 h0 as' wr Q := by
  refine MetFree.of_bodySF hpl hisR ?_
  intro p e s m args below meth c s₁ Bd hml0 hP hK
  obtain ⟨rfl, hZ, hh, hC, hSL⟩ := hP
  have X0 : Stand p l e rm s m args below meth c s₁ [] 0 0 := Stand.of_body Bd
  subst hh
  obtain ⟨s₂, o, a1, a2⟩ := k p e s m below meth c s₁ (BodyLoose.notSynchronized Bd) Bd.returns (name_of_methodNamed Bd.named Bd.method).1 hSL ⟨X0, by rw [Bd.state]; rfl, hZ, findClass_of_methodNamed Bd.named, Bd.exec, Bd.bytes, hml0, Fr.nil n0, ho, Or.inr ⟨rfl, ⟨_, (State.WarmedH.refl s).since s.heap.size, Nat.le_refl _⟩, CHr.refl hC⟩⟩
  exact ⟨s₂, o, castTop (hef m) a1, a2⟩
theorem f_retN (A : WS p l e R s m args below meth c Z EL n0 own code ml false vm T h locs cells slots) {h0 : Heap} {wr : List Addr} {Q : Option Value → Heap → Prop} {kc ks : Nat} (hlk : meth.locks = false) (hret : meth.sig.returnType = none) (hd : decode code pc = .ok (.return_, 1))  (hc : cells ≤ kc) (hs : slots ≤ ks) (K : Keep h0 h wr) (q : Q (none) h) : Wp p e below (PN s n0 h0 wr Q kc ks) T (mkF m pc L []) := by
  obtain ⟨X, rfl, -, -, hx, hby, -, N, -, b⟩ := A
  obtain ⟨-, rfl⟩ : false = false ∧ vm = s.vm := b.elim id fun b => by cases b.1
  have X : Stand p l e R s m args below meth c T locs cells slots := X
  obtain ⟨fs, hr, hrun, hended, hW, hsame⟩ := X.leave (v := none) (by intro _; rfl) hlk
  refine ⟨_, _, ?_, hrun, hended, _, _, rfl, ⟨N, K, q⟩, ⟨_, rfl⟩, hW, hsame.mono hc hs⟩
  exact X.returnOut hx hret (hb hby hd) hr
theorem f_retW (A : WS p l e R s m args below meth c Z EL n0 own code ml true vm T h locs cells slots) {a0 : Array Value} (hEL : EW Z a0 EL) {h0 : Heap} {wr : List Addr} {Q : Option Value → Heap → Prop} {kc ks : Nat} (hlk : meth.locks = false) (hret : meth.sig.returnType = none) (hd : decode code pc = .ok (.return_, 1))  (hc : cells ≤ kc) (hs : slots ≤ ks) (K : Keep h0 h wr) (q : Q (none) h) : Wp p e below (PW s Z EL n0 h0 wr Q kc ks) T (mkF m pc L []) := by
  obtain ⟨⟨k0, hS, hk⟩, hC⟩ := A.wide
  obtain ⟨X, rfl, hZ, -, hx, hby, -, N, -, -⟩ := A
  obtain ⟨fs, hr, hrun, hended, hW⟩ := X.leaveW hS hk (v := none) (by intro _; rfl) hlk
  refine ⟨_, _, ?_, hrun, hended, _, _, rfl, ⟨N, K, q⟩, hC.trans (show CHr Z EL vm T.heap T.vm T.heap from CHv.at X hZ hEL hC.1), hW.1, hW.2.1, hW.2.2.1, hW.2.2.2.mono hc hs⟩
  exact X.returnOut hx hret (hb hby hd) hr
theorem f_retIN (A : WS p l e R s m args below meth c Z EL n0 own code ml false vm T h locs cells slots) {h0 : Heap} {wr : List Addr} {Q : Option Value → Heap → Prop} {kc ks : Nat} (hlk : meth.locks = false) (hret : meth.sig.returnType = some .int) (hd : decode code pc = .ok (.ireturn, 1)) {z : Int32} (hc : cells ≤ kc) (hs : slots ≤ ks) (K : Keep h0 h wr) (q : Q (some (.int z)) h) : Wp p e below (PN s n0 h0 wr Q kc ks) T (mkF m pc L (.int z :: S)) := by
  obtain ⟨X, rfl, -, -, hx, hby, -, N, -, b⟩ := A
  obtain ⟨-, rfl⟩ : false = false ∧ vm = s.vm := b.elim id fun b => by cases b.1
  have X : Stand p l e R s m args below meth c T locs cells slots := X
  obtain ⟨fs, hr, hrun, hended, hW, hsame⟩ := X.leave (v := some (.int z)) (by intro h; rw [hret] at h; cases h) hlk
  refine ⟨_, _, ?_, hrun, hended, _, _, rfl, ⟨N, K, q⟩, ⟨_, rfl⟩, hW, hsame.mono hc hs⟩
  exact retOut X hx hret rfl (Or.inl ⟨rfl, Or.inl rfl, z, rfl⟩) (hb hby hd) hr
theorem f_retIW (A : WS p l e R s m args below meth c Z EL n0 own code ml true vm T h locs cells slots) {a0 : Array Value} (hEL : EW Z a0 EL) {h0 : Heap} {wr : List Addr} {Q : Option Value → Heap → Prop} {kc ks : Nat} (hlk : meth.locks = false) (hret : meth.sig.returnType = some .int) (hd : decode code pc = .ok (.ireturn, 1)) {z : Int32} (hc : cells ≤ kc) (hs : slots ≤ ks) (K : Keep h0 h wr) (q : Q (some (.int z)) h) : Wp p e below (PW s Z EL n0 h0 wr Q kc ks) T (mkF m pc L (.int z :: S)) := by
  obtain ⟨⟨k0, hS, hk⟩, hC⟩ := A.wide
  obtain ⟨X, rfl, hZ, -, hx, hby, -, N, -, -⟩ := A
  obtain ⟨fs, hr, hrun, hended, hW⟩ := X.leaveW hS hk (v := some (.int z)) (by intro h; rw [hret] at h; cases h) hlk
  refine ⟨_, _, ?_, hrun, hended, _, _, rfl, ⟨N, K, q⟩, hC.trans (show CHr Z EL vm T.heap T.vm T.heap from CHv.at X hZ hEL hC.1), hW.1, hW.2.1, hW.2.2.1, hW.2.2.2.mono hc hs⟩
  exact retOut X hx hret rfl (Or.inl ⟨rfl, Or.inl rfl, z, rfl⟩) (hb hby hd) hr
theorem f_retBN (A : WS p l e R s m args below meth c Z EL n0 own code ml false vm T h locs cells slots) {h0 : Heap} {wr : List Addr} {Q : Option Value → Heap → Prop} {kc ks : Nat} (hlk : meth.locks = false) {t : FieldType} (hret : meth.sig.returnType = some t) (hd : decode code pc = .ok (.ireturn, 1)) {z : Int32} (ht : t = .boolean ∨ t = .byte ∨ t = .char ∨ t = .short) (z' : Int32) (hz : nar t z = z') (hc : cells ≤ kc) (hs : slots ≤ ks) (K : Keep h0 h wr) (q : Q (some (.int z')) h) : Wp p e below (PN s n0 h0 wr Q kc ks) T (mkF m pc L (.int z :: S)) := by
  obtain ⟨X, rfl, -, -, hx, hby, -, N, -, b⟩ := A
  obtain ⟨-, rfl⟩ : false = false ∧ vm = s.vm := b.elim id fun b => by cases b.1
  have X : Stand p l e R s m args below meth c T locs cells slots := X
  obtain ⟨fs, hr, hrun, hended, hW, hsame⟩ := X.leave (v := some (.int z')) (by intro h; rw [hret] at h; cases h) hlk
  refine ⟨_, _, ?_, hrun, hended, _, _, rfl, ⟨N, K, q⟩, ⟨_, rfl⟩, hW, hsame.mono hc hs⟩
  subst hz; exact retN X hx hret ht (hb hby hd) hr
theorem f_retBW (A : WS p l e R s m args below meth c Z EL n0 own code ml true vm T h locs cells slots) {a0 : Array Value} (hEL : EW Z a0 EL) {h0 : Heap} {wr : List Addr} {Q : Option Value → Heap → Prop} {kc ks : Nat} (hlk : meth.locks = false) {t : FieldType} (hret : meth.sig.returnType = some t) (hd : decode code pc = .ok (.ireturn, 1)) {z : Int32} (ht : t = .boolean ∨ t = .byte ∨ t = .char ∨ t = .short) (z' : Int32) (hz : nar t z = z') (hc : cells ≤ kc) (hs : slots ≤ ks) (K : Keep h0 h wr) (q : Q (some (.int z')) h) : Wp p e below (PW s Z EL n0 h0 wr Q kc ks) T (mkF m pc L (.int z :: S)) := by
  obtain ⟨⟨k0, hS, hk⟩, hC⟩ := A.wide
  obtain ⟨X, rfl, hZ, -, hx, hby, -, N, -, -⟩ := A
  obtain ⟨fs, hr, hrun, hended, hW⟩ := X.leaveW hS hk (v := some (.int z')) (by intro h; rw [hret] at h; cases h) hlk
  refine ⟨_, _, ?_, hrun, hended, _, _, rfl, ⟨N, K, q⟩, hC.trans (show CHr Z EL vm T.heap T.vm T.heap from CHv.at X hZ hEL hC.1), hW.1, hW.2.1, hW.2.2.1, hW.2.2.2.mono hc hs⟩
  subst hz; exact retN X hx hret ht (hb hby hd) hr
theorem f_retJN (A : WS p l e R s m args below meth c Z EL n0 own code ml false vm T h locs cells slots) {h0 : Heap} {wr : List Addr} {Q : Option Value → Heap → Prop} {kc ks : Nat} (hlk : meth.locks = false) (hret : meth.sig.returnType = some .long) (hd : decode code pc = .ok (.lreturn, 1)) {z : Int64} (hc : cells ≤ kc) (hs : slots ≤ ks) (K : Keep h0 h wr) (q : Q (some (.long z)) h) : Wp p e below (PN s n0 h0 wr Q kc ks) T (mkF m pc L (.long z :: S)) := by
  obtain ⟨X, rfl, -, -, hx, hby, -, N, -, b⟩ := A
  obtain ⟨-, rfl⟩ : false = false ∧ vm = s.vm := b.elim id fun b => by cases b.1
  have X : Stand p l e R s m args below meth c T locs cells slots := X
  obtain ⟨fs, hr, hrun, hended, hW, hsame⟩ := X.leave (v := some (.long z)) (by intro h; rw [hret] at h; cases h) hlk
  refine ⟨_, _, ?_, hrun, hended, _, _, rfl, ⟨N, K, q⟩, ⟨_, rfl⟩, hW, hsame.mono hc hs⟩
  exact retOut X hx hret rfl (Or.inr (Or.inl ⟨rfl, rfl, z, rfl⟩)) (hb hby hd) hr
theorem f_retJW (A : WS p l e R s m args below meth c Z EL n0 own code ml true vm T h locs cells slots) {a0 : Array Value} (hEL : EW Z a0 EL) {h0 : Heap} {wr : List Addr} {Q : Option Value → Heap → Prop} {kc ks : Nat} (hlk : meth.locks = false) (hret : meth.sig.returnType = some .long) (hd : decode code pc = .ok (.lreturn, 1)) {z : Int64} (hc : cells ≤ kc) (hs : slots ≤ ks) (K : Keep h0 h wr) (q : Q (some (.long z)) h) : Wp p e below (PW s Z EL n0 h0 wr Q kc ks) T (mkF m pc L (.long z :: S)) := by
  obtain ⟨⟨k0, hS, hk⟩, hC⟩ := A.wide
  obtain ⟨X, rfl, hZ, -, hx, hby, -, N, -, -⟩ := A
  obtain ⟨fs, hr, hrun, hended, hW⟩ := X.leaveW hS hk (v := some (.long z)) (by intro h; rw [hret] at h; cases h) hlk
  refine ⟨_, _, ?_, hrun, hended, _, _, rfl, ⟨N, K, q⟩, hC.trans (show CHr Z EL vm T.heap T.vm T.heap from CHv.at X hZ hEL hC.1), hW.1, hW.2.1, hW.2.2.1, hW.2.2.2.mono hc hs⟩
  exact retOut X hx hret rfl (Or.inr (Or.inl ⟨rfl, rfl, z, rfl⟩)) (hb hby hd) hr
theorem f_retRN (A : WS p l e R s m args below meth c Z EL n0 own code ml false vm T h locs cells slots) {h0 : Heap} {wr : List Addr} {Q : Option Value → Heap → Prop} {kc ks : Nat} (hlk : meth.locks = false) {t : FieldType} (hret : meth.sig.returnType = some t) (hd : decode code pc = .ok (.areturn, 1)) {z : Value} (ht : t.isReference = true) (hz : z.isRef = true) (hc : cells ≤ kc) (hs : slots ≤ ks) (K : Keep h0 h wr) (q : Q (some z) h) : Wp p e below (PN s n0 h0 wr Q kc ks) T (mkF m pc L (z :: S)) := by
  obtain ⟨X, rfl, -, -, hx, hby, -, N, -, b⟩ := A
  obtain ⟨-, rfl⟩ : false = false ∧ vm = s.vm := b.elim id fun b => by cases b.1
  have X : Stand p l e R s m args below meth c T locs cells slots := X
  obtain ⟨fs, hr, hrun, hended, hW, hsame⟩ := X.leave (v := some z) (by intro h; rw [hret] at h; cases h) hlk
  refine ⟨_, _, ?_, hrun, hended, _, _, rfl, ⟨N, K, q⟩, ⟨_, rfl⟩, hW, hsame.mono hc hs⟩
  exact retOut X hx hret (by cases t <;> cases z <;> first | rfl | cases ht | cases hz) (Or.inr (Or.inr (Or.inr (Or.inr ⟨rfl, ht, hz⟩)))) (hb hby hd) hr
theorem f_retRW (A : WS p l e R s m args below meth c Z EL n0 own code ml true vm T h locs cells slots) {a0 : Array Value} (hEL : EW Z a0 EL) {h0 : Heap} {wr : List Addr} {Q : Option Value → Heap → Prop} {kc ks : Nat} (hlk : meth.locks = false) {t : FieldType} (hret : meth.sig.returnType = some t) (hd : decode code pc = .ok (.areturn, 1)) {z : Value} (ht : t.isReference = true) (hz : z.isRef = true) (hc : cells ≤ kc) (hs : slots ≤ ks) (K : Keep h0 h wr) (q : Q (some z) h) : Wp p e below (PW s Z EL n0 h0 wr Q kc ks) T (mkF m pc L (z :: S)) := by
  obtain ⟨⟨k0, hS, hk⟩, hC⟩ := A.wide
  obtain ⟨X, rfl, hZ, -, hx, hby, -, N, -, -⟩ := A
  obtain ⟨fs, hr, hrun, hended, hW⟩ := X.leaveW hS hk (v := some z) (by intro h; rw [hret] at h; cases h) hlk
  refine ⟨_, _, ?_, hrun, hended, _, _, rfl, ⟨N, K, q⟩, hC.trans (show CHr Z EL vm T.heap T.vm T.heap from CHv.at X hZ hEL hC.1), hW.1, hW.2.1, hW.2.2.1, hW.2.2.2.mono hc hs⟩
  exact retOut X hx hret (by cases t <;> cases z <;> first | rfl | cases ht | cases hz) (Or.inr (Or.inr (Or.inr (Or.inr ⟨rfl, ht, hz⟩)))) (hb hby hd) hr
theorem f_callS (A : WS p l e R s m args below meth c Z EL n0 own code ml bw vm T h locs cells slots) {i : Nat} {y : MethodName} {bytes : ByteArray} {maxL : Nat} {ret : Option FieldType} {wr : List Addr} {Q : Option Value → Heap → Prop} {kc ks : Nat} (hd : decode code pc = .ok (.invokestatic i, 3)) (hp : pc + 3 = pc') (w1 : (Cond.methodLink own i y).before a0 Z = true) (w2 : (Cond.static y).before a0 Z = true) (w3 : (Cond.initialized y.cls).before a0 Z = true) (w4 : (Cond.code y bytes maxL ret).before a0 Z = true) (hy : y.cls ≠ "java/lang/invoke/MethodHandle" ∧ y.cls ≠ "java/lang/invoke/VarHandle")
    {ps : List FieldType} {r : Option FieldType} (pd : parseMethodDescriptor y.desc = some ⟨ps, r⟩) (argsL rest : List Value) (hal : argsL.length = ps.length) (hS : S = argsL.reverse ++ rest) (hml : L.size = ml) (W : Nat) (hW : (rest.map fun v => v.category).sum ≤ W) (hK : BkN l R p e below (s.setVm vm) args y 3 W argsL.toArray h n0 wr Q kc ks) (hc : cells + kc ≤ R.cells) (hs : slots + ks ≤ R.slots) (hn : ∀ x ∈ wr, n0 ≤ x) (sf : bw = true → ∀ x ∈ wr, Safe Z EL vm h x)
    (k : ∀ (v : Option Value) (T' : State) (h' : Heap) (L' : List Loc), WS p l e R s m args below meth c Z EL n0 own code ml bw vm T' h' (locs ++ L') (cells + kc) (slots + ks) → Keep h h' wr → Q v h' → Wp p e below P T' (mkF m pc' L (v.toList ++ rest))) : Wp p e below P T (mkF m pc L S) := by
  subst hp hS
  obtain ⟨v, _, ⟨T', L1, k1, n1⟩, -, X', ⟨L', ⟨N, K, q⟩, l1, y1, z1⟩, st⟩ := Jvm.LawKit.callS A.1 A.2.2.2.2.1 (y := y) A.2.2.2.1 (mvT A.hZ w1) (mvT A.hZ w2) (mvT A.hZ w3) (mvT A.hZ w4) hy hK (g := mkF m pc L (argsL.reverse ++ rest)) rfl (hml.trans A.2.2.2.2.2.2.1.symm) (argsL := argsL) (rest := rest) (lenOf pd hal) rfl (by show 2 * 0 + _ ≤ _; omega) (hb A.2.2.2.2.2.1 hd) (fun _ _ => ⟨rfl, A.2.1, hc, hs⟩)
  dsimp only [Pt.U, Pt.locs, Pt.cells, Pt.slots] at X' l1 y1 z1 st N K q
  subst l1 y1 z1
  exact (k v T' T'.heap L' (A.kept X' rfl (A.2.2.2.2.2.2.2.1.app N) K hn sf) K q).go st
theorem f_callI (A : WS p l e R s m args below meth c Z EL n0 own code ml bw vm T h locs cells slots) {i : Nat} {y : MethodName} {bytes : ByteArray} {maxL : Nat} {a : Addr} {wr : List Addr} {Q : Option Value → Heap → Prop} {kc ks : Nat} (hd : decode code pc = .ok (.invokespecial i, 3)) (hp : pc + 3 = pc') (hy1 : y.name = "<init>") (w1 : (Cond.methodLink own i y).before a0 Z = true) (w2 : (Cond.instanceMethod y).before a0 Z = true) (w4 : (Cond.code y bytes maxL none).before a0 Z = true) (hy : y.cls ≠ "java/lang/invoke/MethodHandle" ∧ y.cls ≠ "java/lang/invoke/VarHandle")
    {ps : List FieldType} {r : Option FieldType} (pd : parseMethodDescriptor y.desc = some ⟨ps, r⟩) (argsL rest : List Value) (hal : argsL.length = ps.length) (hS : S = argsL.reverse ++ .ref a :: rest) (hml : L.size = ml) (W : Nat) (hW : (rest.map fun v => v.category).sum ≤ W) (hK : BkN l R p e below (s.setVm vm) args y 3 W (.ref a :: argsL).toArray h n0 wr Q kc ks) (hc : cells + kc ≤ R.cells) (hs : slots + ks ≤ R.slots) (hn : ∀ x ∈ wr, n0 ≤ x) (sf : bw = true → ∀ x ∈ wr, Safe Z EL vm h x)
    (k : ∀ (v : Option Value) (T' : State) (h' : Heap) (L' : List Loc), WS p l e R s m args below meth c Z EL n0 own code ml bw vm T' h' (locs ++ L') (cells + kc) (slots + ks) → Keep h h' wr → Q v h' → Wp p e below P T' (mkF m pc' L (v.toList ++ rest))) : Wp p e below P T (mkF m pc L S) := by
  subst hp hS
  obtain ⟨v, _, ⟨T', L1, k1, n1⟩, -, X', ⟨L', ⟨N, K, q⟩, l1, y1, z1⟩, st⟩ := A.1.specialBack A.2.2.2.2.1 (y := y) hy1 A.2.2.2.1 (mvT A.hZ w1) (mvT A.hZ w2) (mvT A.hZ w4) hy hK (g := mkF m pc L (argsL.reverse ++ .ref a :: rest)) rfl (hml.trans A.2.2.2.2.2.2.1.symm) (Steps.refl _) (a := a) (argsL := argsL) (rest := rest) (lenOf pd hal) rfl (by show 2 * 0 + _ ≤ _; omega) (hb A.2.2.2.2.2.1 hd) (fun _ _ => ⟨rfl, A.2.1, hc, hs⟩)
  dsimp only [Pt.U, Pt.locs, Pt.cells, Pt.slots] at X' l1 y1 z1 st N K q
  subst l1 y1 z1
  exact (k v T' T'.heap L' (A.kept X' rfl (A.2.2.2.2.2.2.2.1.app N) K hn sf) K q).gos st
theorem f_callV (A : WS p l e R s m args below meth c Z EL n0 own code ml bw vm T h locs cells slots) {i : Nat} {y z : MethodName} {C : String} {a : Addr} {wr : List Addr} {Q : Option Value → Heap → Prop} {kc ks : Nat} (hd : decode code pc = .ok (.invokevirtual i, 3)) (hp : pc + 3 = pc') (w1 : (Cond.methodLink own i y).before a0 Z = true) (w2 : (Cond.declares y).before a0 Z = true) (hnf : NotFace (s.setVm vm) y) (w3 : (Cond.selects C y z).before a0 Z = true) (w4 : (Cond.instanceMethod z).before a0 Z = true) (hy : y.cls ≠ "java/lang/invoke/MethodHandle" ∧ y.cls ≠ "java/lang/invoke/VarHandle") (E : Exa Z h a C)
    {ps : List FieldType} {r : Option FieldType} (pd : parseMethodDescriptor y.desc = some ⟨ps, r⟩) (argsL rest : List Value) (hal : argsL.length = ps.length) (hS : S = argsL.reverse ++ .ref a :: rest) (hml : L.size = ml) (W : Nat) (hW : (rest.map fun v => v.category).sum ≤ W) (hK : BkN l R p e below (s.setVm vm) args z 3 W (.ref a :: argsL).toArray h n0 wr Q kc ks) (hc : cells + kc ≤ R.cells) (hs : slots + ks ≤ R.slots) (hn : ∀ x ∈ wr, n0 ≤ x) (sf : bw = true → ∀ x ∈ wr, Safe Z EL vm h x)
    (k : ∀ (v : Option Value) (T' : State) (h' : Heap) (L' : List Loc), WS p l e R s m args below meth c Z EL n0 own code ml bw vm T' h' (locs ++ L') (cells + kc) (slots + ks) → Keep h h' wr → Q v h' → Wp p e below P T' (mkF m pc' L (v.toList ++ rest))) : Wp p e below P T (mkF m pc L S) := by
  subst hp hS
  obtain ⟨cq, kq, qa, qb, qc⟩ := isOf A.hZ A.2.1 E
  obtain ⟨v, _, ⟨T', L1, k1, n1⟩, -, X', ⟨L', ⟨N, K, q⟩, l1, y1, z1⟩, st⟩ := A.1.virtualBack A.2.2.2.2.1 (y := y) (z := z) A.2.2.2.1 (mvT A.hZ w1) (mvT A.hZ w2) hnf (mvT A.hZ w3) (mvT A.hZ w4) hy hK qa qc (g := mkF m pc L (argsL.reverse ++ .ref a :: rest)) rfl (hml.trans A.2.2.2.2.2.2.1.symm) (Steps.refl _) (argsL := argsL) (rest := rest) (lenOf pd hal) rfl (by show 2 * 0 + _ ≤ _; omega) (hb A.2.2.2.2.2.1 hd) (fun _ _ => ⟨rfl, A.2.1, hc, hs⟩)
  dsimp only [Pt.U, Pt.locs, Pt.cells, Pt.slots] at X' l1 y1 z1 st N K q
  subst l1 y1 z1
  exact (k v T' T'.heap L' (A.kept X' rfl (A.2.2.2.2.2.2.2.1.app N) K hn sf) K q).gos st
theorem nfS {y : MethodName} {C : String} (A : WS p l e R s m args below meth c Z EL n0 own code ml bw vm T h locs cells slots) (w3 : (Cond.selects C y y).before a0 Z = true) : NotFace (s.setVm vm) y := notFace_of_selects (args := #[]) (mvT A.hZ w3)
/-- the payer, of a contract -/
theorem CN.pay {y : MethodName} {bytes : ByteArray} {maxL : Nat} {ret : Option FieldType} {rm : Room} {as' : Array Value} {wr : List Addr} {Q : Option Value → Heap → Prop} {len W : Nat} (A : WS p l e R s m args below meth c Z EL n0 own code ml bw vm T h locs cells slots) (hM : CN l y bytes maxL ret [] rm Z n0 h as' wr Q) (wc : (Cond.code y bytes maxL ret).before a0 Z = true) (wz : (Cond.initialized y.cls).before a0 Z = true) (hf : rm.frames + 1 ≤ R.frames) (hl : W + (maxL + 11) + rm.locals ≤ R.locals) :
    BkN l R p e below (s.setVm vm) args y len W as' h n0 wr Q rm.cells rm.slots :=
  backOf (Q := fun v h' L => Fr n0 L ∧ Keep h h' wr ∧ Q v h') hM A.hZ wc wz hf hl
theorem nfOf {U : State} {a : Array Value} {C : String} {y y0 : MethodName} (w : (Cond.selects C y0 y0).before a U = true) (hc : y0.cls = y.cls) : NotFace U y := fun r0 h0 => by
  obtain ⟨c2, r2, m2, q1, q2, q3, q4, kP, hkP, hkPi⟩ := Cond.selects_spec w
  have e1 := findClass_of_methodNamed h0
  have e2 := findClass_of_methodNamed q3
  rw [hc] at e2
  have e3 : r0.cls = m2.cls := Option.some.inj (e1.symm.trans e2)
  exact ⟨kP, by rw [e3]; exact hkP, hkPi⟩
theorem nfT {C : String} {y y0 : MethodName} (A : WS p l e R s m args below meth c Z EL n0 own code ml bw vm T h locs cells slots) (w : (Cond.selects C y0 y0).before a0 Z = true) (hc : y0.cls = y.cls) : NotFace (s.setVm vm) y := nfOf (a := #[]) (mvT A.hZ w) hc
theorem sameSelf {U : State} {a : Array Value} {y : MethodName} (wi : (Cond.instanceMethod y).before a U = true) (nf : NotFace U y) (hy : y.cls ≠ "java/lang/invoke/MethodHandle" ∧ y.cls ≠ "java/lang/invoke/VarHandle") : (Cond.sameMethod y.cls y.cls y.name y.desc).before a U = true := by
  obtain ⟨mk, methM, hnamed, -, -, -⟩ := Cond.instanceMethod_spec wi
  obtain ⟨k, hk, hni⟩ := nf mk hnamed
  have hf : U.methodFound? y.cls y.name y.desc = some mk := State.methodFound?_of_named hnamed hy
  have hc := findClass_of_methodNamed hnamed
  have hn : U.methodNamed? ⟨y.cls, y.name, y.desc⟩ = some mk := hnamed
  simp only [Cond.before, Cond.holds, Cond.value, hc, hf, hn]
  simp [hk, hni]
theorem f_callP (A : WS p l e R s m args below meth c Z EL n0 own code ml bw vm T h locs cells slots) {i : Nat} {y : MethodName} {bytes : ByteArray} {maxL : Nat} {ret : Option FieldType} {C D : String} {a : Addr} {wr : List Addr} {Q : Option Value → Heap → Prop} {kc ks : Nat} (hd : decode code pc = .ok (.invokevirtual i, 3)) (hp : pc + 3 = pc') (w1 : (Cond.methodLink own i y).before a0 Z = true) (w2 : (Cond.instanceMethod y).before a0 Z = true) (w3 : (Cond.privateMethod y).before a0 Z = true) (w4 : (Cond.selects D y y).before a0 Z = true) (wc : (Cond.code y bytes maxL ret).before a0 Z = true) (hy : y.cls ≠ "java/lang/invoke/MethodHandle" ∧ y.cls ≠ "java/lang/invoke/VarHandle") (E : Exa Z h a C)
    {ps : List FieldType} {r : Option FieldType} (pd : parseMethodDescriptor y.desc = some ⟨ps, r⟩) (argsL rest : List Value) (hal : argsL.length = ps.length) (hS : S = argsL.reverse ++ .ref a :: rest) (hml : L.size = ml) (W : Nat) (hW : (rest.map fun v => v.category).sum ≤ W) (hK : BkN l R p e below (s.setVm vm) args y 3 W (.ref a :: argsL).toArray h n0 wr Q kc ks) (hc : cells + kc ≤ R.cells) (hs : slots + ks ≤ R.slots) (hn : ∀ x ∈ wr, n0 ≤ x) (sf : bw = true → ∀ x ∈ wr, Safe Z EL vm h x)
    (k : ∀ (v : Option Value) (T' : State) (h' : Heap) (L' : List Loc), WS p l e R s m args below meth c Z EL n0 own code ml bw vm T' h' (locs ++ L') (cells + kc) (slots + ks) → Keep h h' wr → Q v h' → Wp p e below P T' (mkF m pc' L (v.toList ++ rest))) : Wp p e below P T (mkF m pc L S) := by
  subst hp hS
  have hpriv := Cond.privateMethod_at (mvP (args := args) A.hZ w3)
  have hinst : (Cond.instanceMethod y).before args (s.setVm vm) = true := mvT A.hZ w2
  obtain ⟨mk, methM, hnamed, -, -, -⟩ := Cond.instanceMethod_spec hinst
  obtain ⟨kk, hkk, hni⟩ := notFace_of_selects (args := args) (mvT A.hZ w4) mk hnamed
  have hsel := selects_self_of_private (findClass_of_methodNamed hnamed) hkk hni hpriv hinst hy
  obtain ⟨cq, q1, q2⟩ := E.cell
  obtain ⟨v, _, ⟨T', L1, k1, n1⟩, -, X', ⟨L', ⟨N, K, q⟩, l1, y1, z1⟩, st⟩ := A.1.privateBack A.2.2.2.2.1 (y := y) A.2.2.2.1 (mvT A.hZ w1) hinst hsel hpriv (mvT A.hZ wc) hy hK (g := mkF m pc L (argsL.reverse ++ .ref a :: rest)) rfl (hml.trans A.2.2.2.2.2.2.1.symm) (Steps.refl _) (a := a) (by rw [A.2.1]; exact q1) q2 (argsL := argsL) (rest := rest) (lenOf pd hal) rfl (by show 2 * 0 + _ ≤ _; omega) (hb A.2.2.2.2.2.1 hd) (fun _ _ => ⟨rfl, A.2.1, hc, hs⟩)
  dsimp only [Pt.U, Pt.locs, Pt.cells, Pt.slots] at X' l1 y1 z1 st N K q
  subst l1 y1 z1
  exact (k v T' T'.heap L' (A.kept X' rfl (A.2.2.2.2.2.2.2.1.app N) K hn sf) K q).gos st
theorem f_callU (A : WS p l e R s m args below meth c Z EL n0 own code ml bw vm T h locs cells slots) {i : Nat} {y : MethodName} {bytes : ByteArray} {maxL : Nat} {ret : Option FieldType} {C : String} {a : Addr} {wr : List Addr} {Q : Option Value → Heap → Prop} {kc ks : Nat} (hd : decode code pc = .ok (.invokespecial i, 3)) (hp : pc + 3 = pc') (w1 : (Cond.methodLink own i y).before a0 Z = true) (nf : NotFace Z y) (hy2 : y.cls ≠ "java/lang/invoke/MethodHandle" ∧ y.cls ≠ "java/lang/invoke/VarHandle") (w3 : (Cond.instanceMethod y).before a0 Z = true) (w4 : (Cond.superclass own y.cls).before a0 Z = true) (wc : (Cond.code y bytes maxL ret).before a0 Z = true) (hy : y.name ≠ "<init>") (E : Exa Z h a C)
    {ps : List FieldType} {r : Option FieldType} (pd : parseMethodDescriptor y.desc = some ⟨ps, r⟩) (argsL rest : List Value) (hal : argsL.length = ps.length) (hS : S = argsL.reverse ++ .ref a :: rest) (hml : L.size = ml) (W : Nat) (hW : (rest.map fun v => v.category).sum ≤ W) (hK : BkN l R p e below (s.setVm vm) args y 3 W (.ref a :: argsL).toArray h n0 wr Q kc ks) (hc : cells + kc ≤ R.cells) (hs : slots + ks ≤ R.slots) (hn : ∀ x ∈ wr, n0 ≤ x) (sf : bw = true → ∀ x ∈ wr, Safe Z EL vm h x)
    (k : ∀ (v : Option Value) (T' : State) (h' : Heap) (L' : List Loc), WS p l e R s m args below meth c Z EL n0 own code ml bw vm T' h' (locs ++ L') (cells + kc) (slots + ks) → Keep h h' wr → Q v h' → Wp p e below P T' (mkF m pc' L (v.toList ++ rest))) : Wp p e below P T (mkF m pc L S) := by
  subst hp hS
  obtain ⟨v, _, ⟨T', L1, k1, n1⟩, -, X', ⟨L', ⟨N, K, q⟩, l1, y1, z1⟩, st⟩ := superBack A.1 A.2.2.2.2.1 A.hZ (y := y) A.2.2.2.1 w1 (sameSelf w3 nf hy2) w3 w4 hy hK A.2.1 (Ins.self E) (g := mkF m pc L (argsL.reverse ++ .ref a :: rest)) rfl (hml.trans A.2.2.2.2.2.2.1.symm) wc (argsL := argsL) (rest := rest) (lenOf pd hal) rfl (by show 2 * 0 + _ ≤ _; omega) (hb A.2.2.2.2.2.1 hd) (fun _ _ => ⟨rfl, A.2.1, hc, hs⟩)
  dsimp only [Pt.U, Pt.locs, Pt.cells, Pt.slots] at X' l1 y1 z1 st N K q
  subst l1 y1 z1
  exact (k v T' T'.heap L' (A.kept X' rfl (A.2.2.2.2.2.2.2.1.app N) K hn sf) K q).gos st
theorem f_callF (A : WS p l e R s m args below meth c Z EL n0 own code ml bw vm T h locs cells slots) {i n : Nat} {y z : MethodName} {C : String} {a : Addr} {wr : List Addr} {Q : Option Value → Heap → Prop} {kc ks : Nat} (hd : decode code pc = .ok (.invokeinterface i n, 5)) (hp : pc + 5 = pc') (w1 : (Cond.methodLink own i y).before a0 Z = true) (w2 : (Cond.declares y).before a0 Z = true) (w3 : (Cond.interfaceMethod y.cls y.cls y.name y.desc).before a0 Z = true) (hfc : ((Cond.interfaceMethod y.cls y.cls y.name y.desc).onTables && (Cond.interfaceMethod y.cls y.cls y.name y.desc).keepsFace) = true) (w4 : (Cond.selects C y z).before a0 Z = true) (w5 : (Cond.instanceMethod z).before a0 Z = true) (w6 : (Cond.publicMethod z).before a0 Z = true) (w7 : (Cond.unhidden C y.name y.desc).before a0 Z = true) (w8 : (Cond.castable C y.cls).before a0 Z = true) (hy : y.cls ≠ "java/lang/invoke/MethodHandle" ∧ y.cls ≠ "java/lang/invoke/VarHandle") (E : Exa Z h a C)
    {ps : List FieldType} {r : Option FieldType} (pd : parseMethodDescriptor y.desc = some ⟨ps, r⟩) (argsL rest : List Value) (hal : argsL.length = ps.length) (hS : S = argsL.reverse ++ .ref a :: rest) (hml : L.size = ml) (W : Nat) (hW : (rest.map fun v => v.category).sum ≤ W) (hK : BkN l R p e below (s.setVm vm) args z 5 W (.ref a :: argsL).toArray h n0 wr Q kc ks) (hc : cells + kc ≤ R.cells) (hs : slots + ks ≤ R.slots) (hn : ∀ x ∈ wr, n0 ≤ x) (sf : bw = true → ∀ x ∈ wr, Safe Z EL vm h x)
    (k : ∀ (v : Option Value) (T' : State) (h' : Heap) (L' : List Loc), WS p l e R s m args below meth c Z EL n0 own code ml bw vm T' h' (locs ++ L') (cells + kc) (slots + ks) → Keep h h' wr → Q v h' → Wp p e below P T' (mkF m pc' L (v.toList ++ rest))) : Wp p e below P T (mkF m pc L S) := by
  subst hp hS
  obtain ⟨cq, kq, qa, qb, qc⟩ := isOf A.hZ A.2.1 E
  obtain ⟨v, _, ⟨T', L1, k1, n1⟩, -, X', ⟨L', ⟨N, K, q⟩, l1, y1, z1⟩, st⟩ := A.1.interfaceBack A.2.2.2.2.1 (xi := y) (y := z) A.2.2.2.1 (mvT A.hZ w1) (mvT A.hZ w2) (mvT A.hZ w3 hfc) (mvT A.hZ w4) (mvT A.hZ w5) (mvT A.hZ w6) (mvT A.hZ w7) (mvT A.hZ w8) hy hK qa qb qc (g := mkF m pc L (argsL.reverse ++ .ref a :: rest)) rfl (hml.trans A.2.2.2.2.2.2.1.symm) (Steps.refl _) (argsL := argsL) (rest := rest) (lenOf pd hal) rfl (by show 2 * 0 + _ ≤ _; omega) (hb A.2.2.2.2.2.1 hd) (fun _ _ => ⟨rfl, A.2.1, hc, hs⟩)
  dsimp only [Pt.U, Pt.locs, Pt.cells, Pt.slots] at X' l1 y1 z1 st N K q
  subst l1 y1 z1
  exact (k v T' T'.heap L' (A.kept X' rfl (A.2.2.2.2.2.2.2.1.app N) K hn sf) K q).gos st
theorem f_clone (A : WS p l e R s m args below meth c Z EL n0 own code ml bw vm T h locs cells slots) {ad : String} {i : Nat} {a : Addr} {kA : ClassId} {ty : FieldType} {z : Int32} {vs : List Value} {dv : Value} (W cap : Nat) (hd : decode code pc = .ok (.invokevirtual i, 3)) (hp : pc + 3 = pc') (w1 : (Cond.methodLink own i ⟨ad, "clone", "()Ljava/lang/Object;"⟩).before a0 Z = true) (w2 : (Cond.sameMethod ad "java/lang/Object" "clone" "()Ljava/lang/Object;").before a0 Z = true) (w3 : (Cond.native ⟨"java/lang/Object", "clone", "()Ljava/lang/Object;"⟩).before a0 Z = true) (w4 : (Cond.instanceMethod ⟨"java/lang/Object", "clone", "()Ljava/lang/Object;"⟩).before a0 Z = true) (w5 : (Cond.selects ad ⟨ad, "clone", "()Ljava/lang/Object;"⟩ ⟨"java/lang/Object", "clone", "()Ljava/lang/Object;"⟩).before a0 Z = true) (w6 : (Cond.castable ad "java/lang/Cloneable").before a0 Z = true)
    (F : Arv Z h a kA ty z vs dv) (E : Exa Z h a ad) (hml : L.size = ml) (hf : 1 ≤ R.frames) (hW : (S.map fun v => v.category).sum ≤ W) (hl : W + 14 ≤ R.locals) (hcap : z.toNatClampNeg ≤ cap) (hc : cells + 1 ≤ R.cells) (hsl : slots + cap ≤ R.slots)
    (k : ∀ (b : Addr) (T' : State) (h' : Heap), b = h.size → WS p l e R s m args below meth c Z EL n0 own code ml bw vm T' h' locs (cells + 1) (slots + cap) → Ext h h' → Arv Z h' b kA ty z vs dv → Exa Z h' b ad → Wp p e below P T' (mkF m pc' L (.ref b :: S))) : Wp p e below P T (mkF m pc L (.ref a :: S)) := by
  subst hp
  obtain ⟨T', h', X', q, E', F', G', st⟩ := cloneH A.1 A.2.2.2.2.1 A.hZ A.2.2.2.1 w1 w2 w3 w4 w5 w6 A.2.1 F.arh E (g := mkF m pc L (.ref a :: S)) rfl (hml.trans A.2.2.2.2.2.2.1.symm) rfl (hb A.2.2.2.2.2.1 hd) hf (W := W) (by show 2 * 0 + _ ≤ _; omega) hl hcap hc hsl
  exact (k _ T' h' rfl (A.grow X' q E') E' F' G').go st
theorem f_arrcpy (A : WS p l e R s m args below meth c Z EL n0 own code ml bw vm T h locs cells slots) {i : Nat} {a b : Addr} {kA kB : ClassId} {ty ty' : FieldType} {z z' sp dp nn : Int32} {vs vd us vd' : List Value} {dv dd : Value} (W : Nat) (hd : decode code pc = .ok (.invokestatic i, 3)) (hp : pc + 3 = pc') (w1 : (Cond.methodLink own i Jvm.Stand.acN).before a0 Z = true) (w2 : (Cond.native Jvm.Stand.acN).before a0 Z = true) (w3 : (Cond.static Jvm.Stand.acN).before a0 Z = true) (w4 : (Cond.initialized "java/lang/System").before a0 Z = true)
    (F : Arv Z h a kA ty z vs dv) (G : Arv Z h b kB ty' z' vd dd) (hty : (ty = ty' ∧ refKind ty = false) ∨ (refKind ty = true ∧ refKind ty' = true ∧ StoL Z h b us)) (h1 : ¬ sp < 0) (h2 : ¬ dp < 0) (h3 : ¬ nn < 0) (h4 : sp.toNatClampNeg + nn.toNatClampNeg ≤ z.toNatClampNeg) (h5 : dp.toNatClampNeg + nn.toNatClampNeg ≤ z'.toNatClampNeg)
    (hus : us = (List.range nn.toNatClampNeg).map fun i => vs.getD (sp.toNatClampNeg + i) dv) (hll : dp.toNatClampNeg + nn.toNatClampNeg ≤ vd.length) (hvd : vd.take dp.toNatClampNeg ++ us ++ vd.drop (dp.toNatClampNeg + nn.toNatClampNeg) = vd') (ge : n0 ≤ b) (sf : bw = true → Safe Z EL vm h b) (hml : L.size = ml) (hf : 1 ≤ R.frames) (hW : (S.map fun v => v.category).sum ≤ W) (hlo : W + (nativeFrameWords "java/lang/System" "arraycopy" 5 + 11) ≤ R.locals)
    (k : ∀ (T' : State) (h' : Heap) (L' : List Loc), WS p l e R s m args below meth c Z EL n0 own code ml bw vm T' h' L' cells slots → Keep h h' [b] → Arv Z h' b kB ty' z' vd' dd → Wp p e below P T' (mkF m pc' L S)) : Wp p e below P T (mkF m pc L (.int nn :: .int dp :: .ref b :: .int sp :: .ref a :: S)) := by
  subst hp hvd
  obtain ⟨T', h', L', X', q, N, K, V, st⟩ := cpA A.1 A.2.2.2.2.1 A.hZ A.2.2.2.1 w1 w2 w3 w4 A.2.1 F G hty h1 h2 h3 h4 h5 hus hll A.2.2.2.2.2.2.2.1 ge (g := mkF m pc L (.int nn :: .int dp :: .ref b :: .int sp :: .ref a :: S)) rfl (hml.trans A.2.2.2.2.2.2.1.symm) rfl (hb A.2.2.2.2.2.1 hd) hf (W := W) (by show 2 * 0 + _ ≤ _; omega) hlo
  exact (k T' h' L' (A.kept X' q N K (allS ge all0) (fun b => sfS (sf b) sf0)) K V).go st
theorem f_instNull (A : WS p l e R s m args below meth c Z EL n0 own code ml bw vm T h locs cells slots) {i : Nat} (hd : decode code pc = .ok (.instanceof i, 3)) (hp : pc + 3 = pc') (k : Wp p e below P T (mkF m pc' L (.int 0 :: S))) : Wp p e below P T (mkF m pc L (.null :: S)) := by
  subst hp; exact k.go fun t q => A.1.instanceofNull A.2.2.2.2.1 (g := mkF m pc L (.null :: S)) rfl rfl (hb A.2.2.2.2.2.1 hd) t q
theorem f_castNull (A : WS p l e R s m args below meth c Z EL n0 own code ml bw vm T h locs cells slots) {i : Nat} (hd : decode code pc = .ok (.checkcast i, 3)) (hp : pc + 3 = pc') (k : Wp p e below P T (mkF m pc' L (.null :: S))) : Wp p e below P T (mkF m pc L (.null :: S)) := by
  subst hp; exact k.go fun t q => A.1.checkcastNull A.2.2.2.2.1 (g := mkF m pc L (.null :: S)) rfl rfl (hb A.2.2.2.2.2.1 hd) t q
theorem f_instNo (A : WS p l e R s m args below meth c Z EL n0 own code ml bw vm T h locs cells slots) {C K : String} {i : Nat} {a : Addr} (hd : decode code pc = .ok (.instanceof i, 3)) (hp : pc + 3 = pc') (w : (Cond.classLink own i K).before a0 Z = true) (E : Exa Z h a C) (F : ∃ c t, Z.vm.findClass C = some c ∧ Z.vm.findClass K = some t ∧ Z.vm.assignable c t = false) (k : ∀ (T' : State), WS p l e R s m args below meth c Z EL n0 own code ml bw vm T' h locs cells slots → Wp p e below P T' (mkF m pc' L (.int 0 :: S))) : Wp p e below P T (mkF m pc L (.ref a :: S)) := by
  subst hp
  obtain ⟨T', X', q, st⟩ := instNo A.1 A.2.2.2.2.1 A.hZ A.2.2.2.1 w A.2.1 E F (g := mkF m pc L (.ref a :: S)) rfl rfl (hb A.2.2.2.2.2.1 hd)
  exact (k T' (A.still X' q)).go st
theorem f_callSW (A : WS p l e R s m args below meth c Z EL n0 own code ml true vm T h locs cells slots) {i : Nat} {y : MethodName} {bytes : ByteArray} {maxL : Nat} {ret : Option FieldType} {wr : List Addr} {Q : Option Value → Heap → Prop} {kc ks : Nat} (hd : decode code pc = .ok (.invokestatic i, 3)) (hp : pc + 3 = pc') (w1 : (Cond.methodLink own i y).before a0 Z = true) (w2 : (Cond.static y).before a0 Z = true) (w3 : (Cond.initialized y.cls).before a0 Z = true) (w4 : (Cond.code y bytes maxL ret).before a0 Z = true) (hy : y.cls ≠ "java/lang/invoke/MethodHandle" ∧ y.cls ≠ "java/lang/invoke/VarHandle")
    {ps : List FieldType} {r : Option FieldType} (pd : parseMethodDescriptor y.desc = some ⟨ps, r⟩) (argsL rest : List Value) (hal : argsL.length = ps.length) (hS : S = argsL.reverse ++ rest) (hml : L.size = ml) (W : Nat) (hW : (rest.map fun v => v.category).sum ≤ W) (hK : BkS l R p e below (s.setVm vm) args y 3 W argsL.toArray h n0 wr Q kc ks Z EL vm) (hc : cells + kc ≤ R.cells) (hs : slots + ks ≤ R.slots) (hn : ∀ x ∈ wr, n0 ≤ x)
    (k : ∀ (v : Option Value) (vm' : Vm) (T' : State) (h' : Heap) (L' : List Loc), WS p l e R s m args below meth c Z EL n0 own code ml true vm' T' h' (locs ++ L') (cells + kc) (slots + ks) → Keep h h' wr → CHr Z EL vm h vm' h' → Q v h' → Wp p e below P T' (mkF m pc' L (v.toList ++ rest))) : Wp p e below P T (mkF m pc L S) := by
  subst hp hS
  obtain ⟨v, _, ⟨T', L1, k1, n1⟩, -, X', hS2, hg2, ⟨L', ⟨N, K, q⟩, l1, y1, z1, hCC⟩, st⟩ := callSS A.1 A.2.2.2.2.1 (y := y) A.2.2.2.1 (mvT A.hZ w1) (mvT A.hZ w2) (mvT A.hZ w3) (mvT A.hZ w4) hy hK (g := mkF m pc L (argsL.reverse ++ rest)) rfl (hml.trans A.2.2.2.2.2.2.1.symm) (argsL := argsL) (rest := rest) (lenOf pd hal) rfl (by show 2 * 0 + _ ≤ _; omega) (hb A.2.2.2.2.2.1 hd) (fun _ _ => ⟨rfl, A.2.1, hc, hs⟩)
  dsimp only [Pt.U, Pt.locs, Pt.cells, Pt.slots] at X' l1 y1 z1 st N K q hS2 hg2 hCC
  subst l1 y1 z1
  obtain ⟨⟨k0, hS, hk⟩, hC⟩ := A.wide
  obtain ⟨X2, hS3, hZ3, ho3⟩ := rebS hS (A.2.1 ▸ hk) X' hS2 hg2 A.hZ A.2.2.2.1
  exact (k v T'.vm T' T'.heap L' ⟨X2, rfl, hZ3, ho3, A.2.2.2.2.1, A.2.2.2.2.2.1, A.2.2.2.2.2.2.1, A.2.2.2.2.2.2.2.1.app N, A.old.keep K hn, Or.inr ⟨rfl, ⟨_, hS3, Nat.le_refl _⟩, hC.trans hCC⟩⟩ K hCC q).gos st
theorem f_callIW (A : WS p l e R s m args below meth c Z EL n0 own code ml true vm T h locs cells slots) {i : Nat} {y : MethodName} {bytes : ByteArray} {maxL : Nat} {a : Addr} {wr : List Addr} {Q : Option Value → Heap → Prop} {kc ks : Nat} (hd : decode code pc = .ok (.invokespecial i, 3)) (hp : pc + 3 = pc') (hy1 : y.name = "<init>") (w1 : (Cond.methodLink own i y).before a0 Z = true) (w2 : (Cond.instanceMethod y).before a0 Z = true) (w4 : (Cond.code y bytes maxL none).before a0 Z = true) (hy : y.cls ≠ "java/lang/invoke/MethodHandle" ∧ y.cls ≠ "java/lang/invoke/VarHandle")
    {ps : List FieldType} {r : Option FieldType} (pd : parseMethodDescriptor y.desc = some ⟨ps, r⟩) (argsL rest : List Value) (hal : argsL.length = ps.length) (hS : S = argsL.reverse ++ .ref a :: rest) (hml : L.size = ml) (W : Nat) (hW : (rest.map fun v => v.category).sum ≤ W) (hK : BkS l R p e below (s.setVm vm) args y 3 W (.ref a :: argsL).toArray h n0 wr Q kc ks Z EL vm) (hc : cells + kc ≤ R.cells) (hs : slots + ks ≤ R.slots) (hn : ∀ x ∈ wr, n0 ≤ x)
    (k : ∀ (v : Option Value) (vm' : Vm) (T' : State) (h' : Heap) (L' : List Loc), WS p l e R s m args below meth c Z EL n0 own code ml true vm' T' h' (locs ++ L') (cells + kc) (slots + ks) → Keep h h' wr → CHr Z EL vm h vm' h' → Q v h' → Wp p e below P T' (mkF m pc' L (v.toList ++ rest))) : Wp p e below P T (mkF m pc L S) := by
  subst hp hS
  obtain ⟨v, _, ⟨T', L1, k1, n1⟩, -, X', hS2, hg2, ⟨L', ⟨N, K, q⟩, l1, y1, z1, hCC⟩, st⟩ := A.1.specialBackS A.2.2.2.2.1 (y := y) hy1 A.2.2.2.1 (mvT A.hZ w1) (mvT A.hZ w2) (mvT A.hZ w4) hy hK (g := mkF m pc L (argsL.reverse ++ .ref a :: rest)) rfl (hml.trans A.2.2.2.2.2.2.1.symm) (Steps.refl _) (a := a) (argsL := argsL) (rest := rest) (lenOf pd hal) rfl (by show 2 * 0 + _ ≤ _; omega) (hb A.2.2.2.2.2.1 hd) (fun _ _ => ⟨rfl, A.2.1, hc, hs⟩)
  dsimp only [Pt.U, Pt.locs, Pt.cells, Pt.slots] at X' l1 y1 z1 st N K q hS2 hg2 hCC
  subst l1 y1 z1
  obtain ⟨⟨k0, hS, hk⟩, hC⟩ := A.wide
  obtain ⟨X2, hS3, hZ3, ho3⟩ := rebS hS (A.2.1 ▸ hk) X' hS2 hg2 A.hZ A.2.2.2.1
  exact (k v T'.vm T' T'.heap L' ⟨X2, rfl, hZ3, ho3, A.2.2.2.2.1, A.2.2.2.2.2.1, A.2.2.2.2.2.2.1, A.2.2.2.2.2.2.2.1.app N, A.old.keep K hn, Or.inr ⟨rfl, ⟨_, hS3, Nat.le_refl _⟩, hC.trans hCC⟩⟩ K hCC q).gos st
theorem f_callVW (A : WS p l e R s m args below meth c Z EL n0 own code ml true vm T h locs cells slots) {i : Nat} {y z : MethodName} {C : String} {a : Addr} {wr : List Addr} {Q : Option Value → Heap → Prop} {kc ks : Nat} (hd : decode code pc = .ok (.invokevirtual i, 3)) (hp : pc + 3 = pc') (w1 : (Cond.methodLink own i y).before a0 Z = true) (w2 : (Cond.declares y).before a0 Z = true) (hnf : NotFace (s.setVm vm) y) (w3 : (Cond.selects C y z).before a0 Z = true) (w4 : (Cond.instanceMethod z).before a0 Z = true) (hy : y.cls ≠ "java/lang/invoke/MethodHandle" ∧ y.cls ≠ "java/lang/invoke/VarHandle") (E : Exa Z h a C)
    {ps : List FieldType} {r : Option FieldType} (pd : parseMethodDescriptor y.desc = some ⟨ps, r⟩) (argsL rest : List Value) (hal : argsL.length = ps.length) (hS : S = argsL.reverse ++ .ref a :: rest) (hml : L.size = ml) (W : Nat) (hW : (rest.map fun v => v.category).sum ≤ W) (hK : BkS l R p e below (s.setVm vm) args z 3 W (.ref a :: argsL).toArray h n0 wr Q kc ks Z EL vm) (hc : cells + kc ≤ R.cells) (hs : slots + ks ≤ R.slots) (hn : ∀ x ∈ wr, n0 ≤ x)
    (k : ∀ (v : Option Value) (vm' : Vm) (T' : State) (h' : Heap) (L' : List Loc), WS p l e R s m args below meth c Z EL n0 own code ml true vm' T' h' (locs ++ L') (cells + kc) (slots + ks) → Keep h h' wr → CHr Z EL vm h vm' h' → Q v h' → Wp p e below P T' (mkF m pc' L (v.toList ++ rest))) : Wp p e below P T (mkF m pc L S) := by
  subst hp hS
  obtain ⟨cq, kq, qa, qb, qc⟩ := isOf A.hZ A.2.1 E
  obtain ⟨v, _, ⟨T', L1, k1, n1⟩, -, X', hS2, hg2, ⟨L', ⟨N, K, q⟩, l1, y1, z1, hCC⟩, st⟩ := A.1.virtualBackS A.2.2.2.2.1 (y := y) (z := z) A.2.2.2.1 (mvT A.hZ w1) (mvT A.hZ w2) hnf (mvT A.hZ w3) (mvT A.hZ w4) hy hK qa qc (g := mkF m pc L (argsL.reverse ++ .ref a :: rest)) rfl (hml.trans A.2.2.2.2.2.2.1.symm) (Steps.refl _) (argsL := argsL) (rest := rest) (lenOf pd hal) rfl (by show 2 * 0 + _ ≤ _; omega) (hb A.2.2.2.2.2.1 hd) (fun _ _ => ⟨rfl, A.2.1, hc, hs⟩)
  dsimp only [Pt.U, Pt.locs, Pt.cells, Pt.slots] at X' l1 y1 z1 st N K q hS2 hg2 hCC
  subst l1 y1 z1
  obtain ⟨⟨k0, hS, hk⟩, hC⟩ := A.wide
  obtain ⟨X2, hS3, hZ3, ho3⟩ := rebS hS (A.2.1 ▸ hk) X' hS2 hg2 A.hZ A.2.2.2.1
  exact (k v T'.vm T' T'.heap L' ⟨X2, rfl, hZ3, ho3, A.2.2.2.2.1, A.2.2.2.2.2.1, A.2.2.2.2.2.2.1, A.2.2.2.2.2.2.2.1.app N, A.old.keep K hn, Or.inr ⟨rfl, ⟨_, hS3, Nat.le_refl _⟩, hC.trans hCC⟩⟩ K hCC q).gos st
/-- the payer, of a contract that may intern -/
theorem CW.pay {y : MethodName} {bytes : ByteArray} {maxL : Nat} {ret : Option FieldType} {rm : Room} {as' : Array Value} {wr SL : List Addr} {Q : Option Value → Heap → Prop} {len W : Nat} (A : WS p l e R s m args below meth c Z EL n0 own code ml true vm T h locs cells slots) (hEL : EW Z a0 EL) (hM : CW l y bytes maxL ret [] rm Z EL SL n0 h as' wr Q) (wc : (Cond.code y bytes maxL ret).before a0 Z = true) (wz : (Cond.initialized y.cls).before a0 Z = true) (hf : rm.frames + 1 ≤ R.frames) (hl : W + (maxL + 11) + rm.locals ≤ R.locals) (hSL : ∀ x ∈ SL, x < h.size ∧ Safe Z EL vm h x) :
    BkS l R p e below (s.setVm vm) args y len W as' h n0 wr Q rm.cells rm.slots Z EL vm :=
  have H := A.wide.2.1
  BackS.of_freeW (bytes := bytes) (maxL := maxL) (ret := ret) (E := fun _ first o t L k n => k = rm.cells ∧ n = rm.slots ∧ (∃ v, o = .returned v ∧ (Fr n0 L ∧ Keep h t.heap wr ∧ Q v t.heap)) ∧ CHr Z EL first.vm first.heap t.vm t.heap) hM hf hl
    (fun m meth c B a Y hp => have hU : Z.Warmed39 B.U.vm := wtrans (s := s.setVm vm) A.hZ Y.warmed
      ⟨by show (Cond.and _ .tt).before a B.U = true; rw [Cond.before_and, mv hU wc]; rfl, mv hU wc, mv hU wz, hp.2.2.1, hp.2.2.2⟩)
    (fun m meth c B a g mk Y hp => ⟨hp.1, wtrans (s := s.setVm vm) A.hZ Y.warmed, hp.2.1, (CHv.at Y A.hZ hEL H).1, fun x hx => (CHv.at Y A.hZ hEL H).safe (hSL x hx).1 (hSL x hx).2⟩) (fun _ _ _ _ _ _ _ _ _ => trivial)
    (fun _ _ _ _ ⟨v, L, h1, h2, h3, h4⟩ => ⟨L, _, _, h4, rfl, rfl, ⟨v, h1, h2⟩, h3⟩)
    (fun m meth c B a g mk v t L k n Y hp _ _ ⟨e1, e2, ⟨v', e3, e4⟩, e5⟩ => by
      cases e3; subst e1 e2
      refine ⟨L, e4, rfl, rfl, rfl, (CHv.at Y A.hZ hEL H).trans ?_⟩
      rw [← hp.2.1]; exact e5)
end OwnKit
end Jvm.Pilot.@@N@@
/- laws to paste: Road.backV, Road.lenW, Road.chN, Road.codOf (cut by pick.py; bodies as the Statement names them) -/
namespace Jvm.Pilot.@@N@@
namespace StrChars
open Jvm Sem ClassFile Op Lib Jvm.Stand Jvm.Free.XT Jvm.Free.ALB Jvm.Free.JM Jvm.Free
open Jvm.Lib.Cold (StaticIs)
/-- a char array whose places are chars -/
def Ch (a : Addr) (A : Cell) (U : State) : Prop := Arr .char a A U ∧ Typed .char A
theorem Ch.mv {a : Addr} {A : Cell} {U U' : State} (h : Ch a A U) (hal : U.vm.Alike U'.vm) (hh : U'.heap = U.heap) : Ch a A U' := ⟨h.1.mv hal hh, h.2⟩
theorem Ch.keep {a : Addr} {A : Cell} {U U' : State} (h : Ch a A U) (hal : U.vm.Alike U'.vm) (hk : U'.heap[a]? = some A) : Ch a A U' := ⟨h.1.keep hal hk, h.2⟩
/-- what place i of a char[]'s cell holds -/
def cv (A : Cell) (i : Nat) : Int32 := match A.slots[i]? with | some (.int x) => x | _ => 0
theorem Ch.get {a : Addr} {A : Cell} {U : State} (h : Ch a A U) {i : Nat} (hi : i < A.slots.size) : A.slots[i]? = some (.int (cv A i)) := by
  have e := Array.getElem?_eq_getElem hi
  have f := h.2 i _ e
  unfold cv; rw [e]
  generalize A.slots[i] = v at f
  cases v <;> simp [fits] at f ⊢
/-- the byte that i2b leaves of a char -/
def lo8 (x : Int32) : Int32 := x.toInt8.toInt32
theorem fits_lo8 (y : Int32) : fits .byte (.int (lo8 y)) = true := by
  have h1 := y.toInt8.le_toInt
  have h2 := y.toInt8.toInt_lt
  simp only [lo8, fits, Bool.and_eq_true, decide_eq_true_eq, Int32.le_iff_toInt_le, Int8.toInt_toInt32, show (-128 : Int32).toInt = -128 from by decide, show (127 : Int32).toInt = 127 from by decide]
  omega
/-- A' is A but that each place j of lo .. hi - 1 holds f j -/
def Laid (A A' : Cell) (lo hi : Nat) (f : Nat → Value) : Prop := A'.cls = A.cls ∧ A'.vm = A.vm ∧ A'.slots.size = A.slots.size ∧ ∀ i, A'.slots[i]? = if lo ≤ i ∧ i < hi then some (f i) else A.slots[i]?
theorem Laid.zero (A : Cell) (lo : Nat) (f : Nat → Value) : Laid A A lo (lo + 0) f := ⟨rfl, rfl, rfl, fun i => by rw [if_neg (by omega)]⟩
theorem Laid.step {A Ak : Cell} {lo k : Nat} {f : Nat → Value} {v : Value} (h : Laid A Ak lo k f) (hlo : lo ≤ k) (hk : k < Ak.slots.size) (hv : v = f k) : Laid A (Ak.setSlot k v) lo (k + 1) f := by
  refine ⟨h.1, h.2.1, by simpa [Cell.setSlot] using h.2.2.1, fun i => ?_⟩
  by_cases e : k = i
  · subst e; rw [Cell.slots_setSlot_self v hk, if_pos (by omega), hv]
  · rw [Cell.slots_setSlot_ne v e, h.2.2.2 i]
    by_cases q : lo ≤ i ∧ i < k
    · rw [if_pos q, if_pos (by omega)]
    · rw [if_neg q, if_neg (by omega)]
def U16 : String := "java/lang/StringUTF16"
namespace Cmp5
def yN : MethodName := ⟨"java/lang/StringUTF16", "compress", "([CI[BII)I"⟩
abbrev yB : ByteArray := jdk_52_method_21_code
theorem d0 : decode yB 0 = .ok (.iconst 0, 1) := by decide +kernel
theorem d1 : decode yB 1 = .ok (.istore 5, 2) := by decide +kernel
theorem d3 : decode yB 3 = .ok (.iload 5, 2) := by decide +kernel
theorem d5 : decode yB 5 = .ok (.iload 4, 2) := by decide +kernel
theorem d7 : decode yB 7 = .ok (.if_icmp (.ge) 37, 3) := by decide +kernel
theorem d10 : decode yB 10 = .ok (.aload_n 0, 1) := by decide +kernel
theorem d11 : decode yB 11 = .ok (.iload_n 1, 1) := by decide +kernel
theorem d12 : decode yB 12 = .ok (.caload, 1) := by decide +kernel
theorem d13 : decode yB 13 = .ok (.istore 6, 2) := by decide +kernel
theorem d15 : decode yB 15 = .ok (.iload 6, 2) := by decide +kernel
theorem d17 : decode yB 17 = .ok (.sipush 255, 3) := by decide +kernel
theorem d20 : decode yB 20 = .ok (.if_icmp (.le) 6, 3) := by decide +kernel
theorem d26 : decode yB 26 = .ok (.aload_n 2, 1) := by decide +kernel
theorem d27 : decode yB 27 = .ok (.iload_n 3, 1) := by decide +kernel
theorem d28 : decode yB 28 = .ok (.iload 6, 2) := by decide +kernel
theorem d30 : decode yB 30 = .ok (.i2b, 1) := by decide +kernel
theorem d31 : decode yB 31 = .ok (.bastore, 1) := by decide +kernel
theorem d32 : decode yB 32 = .ok (.iinc 1 1, 3) := by decide +kernel
theorem d35 : decode yB 35 = .ok (.iinc 3 1, 3) := by decide +kernel
theorem d38 : decode yB 38 = .ok (.iinc 5 1, 3) := by decide +kernel
theorem d41 : decode yB 41 = .ok (.goto (-38), 3) := by decide +kernel
theorem d44 : decode yB 44 = .ok (.iload 4, 2) := by decide +kernel
theorem d46 : decode yB 46 = .ok (.ireturn, 1) := by decide +kernel
def site : List Cond := []
def tab : Cond := tabOf yN yB 7 (some .int) site
def P (b : Addr) (A : Cell) (d : Addr) (B : Cell) (o q len : Nat) (args : Array Value) (s : State) : Prop := args = #[.ref b, .int (Int32.ofNat o), .ref d, .int (Int32.ofNat q), .int (Int32.ofNat len)] ∧ Ch b A s ∧ Arr .byte d B s ∧ b ≠ d ∧ o + len ≤ A.slots.size ∧ q + len ≤ B.slots.size ∧ ∀ i, i < len → ¬ 255 < cv A (o + i)
def E (b : Addr) (A : Cell) (d : Addr) (B : Cell) (o q len : Nat) (r : Option Value) (s u : State) : Prop := r = some (.int (Int32.ofNat len)) ∧ ∃ B', Put d B' s u ∧ Laid B B' q (q + len) (fun j => Value.int (lo8 (cv A (o + (j - q)))))
/-- no char of the range above 255: len; the places written hold each char's low byte -/
theorem law (l : Launch) (b : Addr) (A : Cell) (d : Addr) (B : Cell) (o q len : Nat) : Law l yN 5 5 0 0 yB 7 (some .int) site (P b A d B o q len) (E b A d B o q len) (copyLocs d q len) 0 0 := by
  refine Law.of_walk (plainFor_of_name (by decide +kernel)) (by decide +kernel) (by decide +kernel) (by decide) (fun _ _ h => by rw [h.1]; rfl) (fun _ U U' hal hh h => ⟨h.1, h.2.1.mv hal hh, h.2.2.1.mv hal hh, h.2.2.2⟩) (fun r U U' V V' h1 hal h2 h => ⟨h.1, h.2.elim fun B' q => ⟨B', q.1.mv h1 h2, q.2⟩⟩) ?_
  intro p e s m args below meth c s₁ X0 hexec hbytes hml hret hlk hnm hown hh0 W hP
  obtain ⟨rfl, hA, hB, hne, l1, l2, hp⟩ := hP
  have c1 : Steps p.tables e below (s₁.setTop (entryFrame m #[.ref b, .int (Int32.ofNat o), .ref d, .int (Int32.ofNat q), .int (Int32.ofNat len)] 7)) (s₁.setTop (mkF m 0 #[.val (.ref b), .val (.int (Int32.ofNat o)), .val (.ref d), .val (.int (Int32.ofNat q)), .val (.int (Int32.ofNat len)), .unset, .unset] [])) := entry rfl
  have hA0 := hA.1.mv X0.warmed.alike hh0
  have hB0 := hB.mv X0.warmed.alike hh0
  have a31 := hA.1.2.2.2
  have c2 : Steps p.tables e below (s₁.setTop (entryFrame m #[.ref b, .int (Int32.ofNat o), .ref d, .int (Int32.ofNat q), .int (Int32.ofNat len)] 7)) (s₁.setTop (mkF m 3 #[.val (.ref b), .val (.int (Int32.ofNat o)), .val (.ref d), .val (.int (Int32.ofNat q)), .val (.int (Int32.ofNat len)), .val (.int 0), .unset] [])) := c1.trans (by
    refine iconstV X0.here hexec rfl 0 (hb hbytes d0) (by decide) ?_
    refine XS.istore X0.here hexec rfl (hb hbytes d1) rfl rfl ?_
    exact Steps.refl _)
  have loop : ∀ (r i : Nat), i + r = len → ∀ (z : Slot), (z = .unset ∨ ∃ w, z = .val w ∧ w.category = 1) → ∀ (Tl : State) (Bk : Cell), Stand p l e { frames := 0, locals := 0, cells := 0, slots := 0 } s m #[.ref b, .int (Int32.ofNat o), .ref d, .int (Int32.ofNat q), .int (Int32.ofNat len)] below meth c Tl ([] ++ copyLocs d q i) 0 0 → Put d Bk s₁ Tl → Laid B Bk q (q + i) (fun j => Value.int (lo8 (cv A (o + (j - q))))) →
      Steps p.tables e below (s₁.setTop (entryFrame m #[.ref b, .int (Int32.ofNat o), .ref d, .int (Int32.ofNat q), .int (Int32.ofNat len)] 7)) (Tl.setTop (mkF m 3 #[.val (.ref b), .val (.int (Int32.ofNat (o + i))), .val (.ref d), .val (.int (Int32.ofNat (q + i))), .val (.int (Int32.ofNat len)), .val (.int (Int32.ofNat i)), z] [])) → ∃ (T' : State) (B' : Cell) (z' : Slot), Stand p l e { frames := 0, locals := 0, cells := 0, slots := 0 } s m #[.ref b, .int (Int32.ofNat o), .ref d, .int (Int32.ofNat q), .int (Int32.ofNat len)] below meth c T' ([] ++ copyLocs d q len) 0 0 ∧ Put d B' s₁ T' ∧ Laid B B' q (q + len) (fun j => Value.int (lo8 (cv A (o + (j - q))))) ∧
      Steps p.tables e below (s₁.setTop (entryFrame m #[.ref b, .int (Int32.ofNat o), .ref d, .int (Int32.ofNat q), .int (Int32.ofNat len)] 7)) (T'.setTop (mkF m 3 #[.val (.ref b), .val (.int (Int32.ofNat (o + len))), .val (.ref d), .val (.int (Int32.ofNat (q + len))), .val (.int (Int32.ofNat len)), .val (.int (Int32.ofNat len)), z'] [])) := by
    intro r
    induction r with
    | zero =>
      intro i hi z hz Tl Bk Xl pl fl cl
      have hil : i = len := by omega
      rw [hil] at Xl fl cl
      exact ⟨Tl, Bk, z, Xl, pl, fl, cl⟩
    | succ r ih =>
      intro i hi z hz Tl Bk Xl pl fl cl
      have all := X0.warmed.alike.symm.trans Xl.warmed.alike
      have hAl := hA0.keep all (pl.other hne hA0.1)
      have hBk := hB0.like all pl.1 fl.1 fl.2.1 fl.2.2.1
      have hlt : q + i < Bk.slots.size := by rw [fl.2.2.1]; omega
      have c3 : Steps p.tables e below (s₁.setTop (entryFrame m #[.ref b, .int (Int32.ofNat o), .ref d, .int (Int32.ofNat q), .int (Int32.ofNat len)] 7)) (Tl.setTop (mkF m 12 #[.val (.ref b), .val (.int (Int32.ofNat (o + i))), .val (.ref d), .val (.int (Int32.ofNat (q + i))), .val (.int (Int32.ofNat len)), .val (.int (Int32.ofNat i)), z] [.int (Int32.ofNat (o + i)), .ref b])) := cl.trans (by
        refine XS.iload Xl.here hexec rfl (hb hbytes d3) rfl ?_
        refine XS.iload Xl.here hexec rfl (hb hbytes d5) rfl ?_
        refine XS.icmpNo Xl.here hexec rfl (hb hbytes d7) rfl (ii_ge_f (lt32 (by omega) (by omega))) ?_
        refine XS.aloadN Xl.here hexec rfl (hb hbytes d10) rfl rfl ?_
        refine XS.iloadN Xl.here hexec rfl (hb hbytes d11) rfl ?_
        exact Steps.refl _)
      have c4 : Steps p.tables e below (s₁.setTop (entryFrame m #[.ref b, .int (Int32.ofNat o), .ref d, .int (Int32.ofNat q), .int (Int32.ofNat len)] 7)) (Tl.setTop (mkF m 13 #[.val (.ref b), .val (.int (Int32.ofNat (o + i))), .val (.ref d), .val (.int (Int32.ofNat (q + i))), .val (.int (Int32.ofNat len)), .val (.int (Int32.ofNat i)), z] [.int (cv A (o + i))])) := c3.trans (by
        refine Xl.aget hexec hAl rfl (hA.get (i := o + i) (by omega)) rfl rfl (hb hbytes d12) ?_
        exact Steps.refl _)
      have c5 : Steps p.tables e below (s₁.setTop (entryFrame m #[.ref b, .int (Int32.ofNat o), .ref d, .int (Int32.ofNat q), .int (Int32.ofNat len)] 7)) (Tl.setTop (mkF m 15 #[.val (.ref b), .val (.int (Int32.ofNat (o + i))), .val (.ref d), .val (.int (Int32.ofNat (q + i))), .val (.int (Int32.ofNat len)), .val (.int (Int32.ofNat i)), .val (.int (cv A (o + i)))] [])) := c4.trans (by
        refine XS.istoreS Xl.here hexec rfl (hb hbytes d13) rfl rfl hz ?_
        exact Steps.refl _)
      have c6 : Steps p.tables e below (s₁.setTop (entryFrame m #[.ref b, .int (Int32.ofNat o), .ref d, .int (Int32.ofNat q), .int (Int32.ofNat len)] 7)) (Tl.setTop (mkF m 31 #[.val (.ref b), .val (.int (Int32.ofNat (o + i))), .val (.ref d), .val (.int (Int32.ofNat (q + i))), .val (.int (Int32.ofNat len)), .val (.int (Int32.ofNat i)), .val (.int (cv A (o + i)))] [.int (lo8 (cv A (o + i))), .int (Int32.ofNat (q + i)), .ref d])) := c5.trans (by
        refine XS.iload Xl.here hexec rfl (hb hbytes d15) rfl ?_
        refine sipushV Xl.here hexec rfl 255 (hb hbytes d17) (by decide) ?_
        refine XS.icmpYes Xl.here hexec rfl (pc0 := 20) rfl (hb hbytes d20) rfl (ii_le_t (hp i (by omega))) (by decide) rfl ?_
        refine XS.aloadN Xl.here hexec rfl (hb hbytes d26) rfl rfl ?_
        refine XS.iloadN Xl.here hexec rfl (hb hbytes d27) rfl ?_
        refine XS.iload Xl.here hexec rfl (hb hbytes d28) rfl ?_
        refine i2b Xl.here hexec rfl (hb hbytes d30) rfl ?_
        exact Steps.refl _)
      obtain ⟨T7, X7, p7, st7⟩ := Xl.aput hexec hBk rfl hlt rfl (fits_lo8 (cv A (o + i))) (g := (mkF m 31 #[.val (.ref b), .val (.int (Int32.ofNat (o + i))), .val (.ref d), .val (.int (Int32.ofNat (q + i))), .val (.int (Int32.ofNat len)), .val (.int (Int32.ofNat i)), .val (.int (cv A (o + i)))] [.int (lo8 (cv A (o + i))), .int (Int32.ofNat (q + i)), .ref d])) rfl (rest := []) rfl (hb hbytes d31)
      have c8 : Steps p.tables e below (s₁.setTop (entryFrame m #[.ref b, .int (Int32.ofNat o), .ref d, .int (Int32.ofNat q), .int (Int32.ofNat len)] 7)) (T7.setTop (mkF m 32 #[.val (.ref b), .val (.int (Int32.ofNat (o + i))), .val (.ref d), .val (.int (Int32.ofNat (q + i))), .val (.int (Int32.ofNat len)), .val (.int (Int32.ofNat i)), .val (.int (cv A (o + i)))] [])) := c6.trans (st7 _ (Steps.refl _))
      have c9 : Steps p.tables e below (s₁.setTop (entryFrame m #[.ref b, .int (Int32.ofNat o), .ref d, .int (Int32.ofNat q), .int (Int32.ofNat len)] 7)) (T7.setTop (mkF m 3 #[.val (.ref b), .val (.int (Int32.ofNat (o + i) + 1)), .val (.ref d), .val (.int (Int32.ofNat (q + i) + 1)), .val (.int (Int32.ofNat len)), .val (.int (Int32.ofNat i + 1)), .val (.int (cv A (o + i)))] [])) := c8.trans (by
        refine iincV X7.here hexec rfl 1 (hb hbytes d32) (by decide) rfl rfl ?_
        refine iincV X7.here hexec rfl 1 (hb hbytes d35) (by decide) rfl rfl ?_
        refine iincV X7.here hexec rfl 1 (hb hbytes d38) (by decide) rfl rfl ?_
        refine XS.goto X7.here hexec rfl (pc0 := 41) rfl (hb hbytes d41) (by decide) rfl ?_
        exact Steps.refl _)
      have c10 : Steps p.tables e below (s₁.setTop (entryFrame m #[.ref b, .int (Int32.ofNat o), .ref d, .int (Int32.ofNat q), .int (Int32.ofNat len)] 7)) (T7.setTop (mkF m 3 #[.val (.ref b), .val (.int (Int32.ofNat (o + (i + 1)))), .val (.ref d), .val (.int (Int32.ofNat (q + (i + 1)))), .val (.int (Int32.ofNat len)), .val (.int (Int32.ofNat (i + 1))), .val (.int (cv A (o + i)))] [])) := by
        have := c9
        rw [succ32, succ32, succ32] at this
        exact this
      exact ih (i + 1) (by omega) _ (Or.inr ⟨_, rfl, rfl⟩) T7 _ (by rw [copyLocs_step, ← List.append_assoc]; exact X7) (pl.trans p7) (fl.step (by omega) hlt (by simp)) c10
  obtain ⟨T9, B9, z9, X9, p9, f9, g9⟩ := loop len 0 (by omega) .unset (Or.inl rfl) s₁ B (by simpa [copyLocs] using X0) ⟨hB0.1, fun _ _ => rfl, rfl⟩ (Laid.zero _ _ _) c2
  have c11 : Steps p.tables e below (s₁.setTop (entryFrame m #[.ref b, .int (Int32.ofNat o), .ref d, .int (Int32.ofNat q), .int (Int32.ofNat len)] 7)) (T9.setTop (mkF m 46 #[.val (.ref b), .val (.int (Int32.ofNat (o + len))), .val (.ref d), .val (.int (Int32.ofNat (q + len))), .val (.int (Int32.ofNat len)), .val (.int (Int32.ofNat len)), z9] [.int (Int32.ofNat len)])) := g9.trans (by
    refine XS.iload X9.here hexec rfl (hb hbytes d3) rfl ?_
    refine XS.iload X9.here hexec rfl (hb hbytes d5) rfl ?_
    refine XS.icmpYes X9.here hexec rfl (pc0 := 7) rfl (hb hbytes d7) rfl (ii_ge_t (nlt32 (by omega) (Nat.le_refl _))) (by decide) rfl ?_
    refine XS.iload X9.here hexec rfl (hb hbytes d44) rfl ?_
    exact Steps.refl _)
  exact ⟨T9, some (.int (Int32.ofNat len)), _, _, _, X9, by simp, rfl, rfl, (fun h => by cases h), ⟨rfl, B9, p9.from hh0, f9⟩, fun fs hl => c11.trans (X9.ireturnOut hexec hret rfl (Or.inl rfl) (hb hbytes d46) hl)⟩
end Cmp5
namespace Cmp3
def yN : MethodName := ⟨"java/lang/StringUTF16", "compress", "([CII)[B"⟩
abbrev yB : ByteArray := jdk_52_method_16_code
theorem d0 : decode yB 0 = .ok (.iload_n 2, 1) := by decide +kernel
theorem d1 : decode yB 1 = .ok (.newarray .byte, 2) := by decide +kernel
theorem d3 : decode yB 3 = .ok (.astore_n 3, 1) := by decide +kernel
theorem d4 : decode yB 4 = .ok (.aload_n 0, 1) := by decide +kernel
theorem d5 : decode yB 5 = .ok (.iload_n 1, 1) := by decide +kernel
theorem d6 : decode yB 6 = .ok (.aload_n 3, 1) := by decide +kernel
theorem d7 : decode yB 7 = .ok (.iconst 0, 1) := by decide +kernel
theorem d8 : decode yB 8 = .ok (.iload_n 2, 1) := by decide +kernel
theorem d9 : decode yB 9 = .ok (.invokestatic 115, 3) := by decide +kernel
theorem d12 : decode yB 12 = .ok (.istore 4, 2) := by decide +kernel
theorem d14 : decode yB 14 = .ok (.iload 4, 2) := by decide +kernel
theorem d16 : decode yB 16 = .ok (.iload_n 2, 1) := by decide +kernel
theorem d17 : decode yB 17 = .ok (.if_icmp (.eq) 40, 3) := by decide +kernel
theorem d57 : decode yB 57 = .ok (.aload_n 3, 1) := by decide +kernel
theorem d58 : decode yB 58 = .ok (.areturn, 1) := by decide +kernel
def site : List Cond := [.arrayClass .byte, Cmp5.tab] ++ staticW U16 115 Cmp5.yN
def tab : Cond := tabOf yN yB 6 (some (.array .byte)) site
def P (b : Addr) (A : Cell) (o len : Nat) (args : Array Value) (s : State) : Prop := args = #[.ref b, .int (Int32.ofNat o), .int (Int32.ofNat len)] ∧ Ch b A s ∧ o + len ≤ A.slots.size ∧ len ≤ 536870912 ∧ ∀ i, i < len → ¬ 255 < cv A (o + i)
def E (b : Addr) (A : Cell) (o len : Nat) (r : Option Value) (s u : State) : Prop := NewArr .byte "[B" len (fun j => .int (lo8 (cv A (o + j)))) r s u ∧ u.heap.size = s.heap.size + 1
/-- no char of the range above 255: a new byte[] of their low bytes -/
theorem law (l : Launch) (b : Addr) (A : Cell) (o len : Nat) : Law l yN 3 3 1 18 yB 6 (some (.array .byte)) site (P b A o len) (E b A o len) [] 1 len := by
  refine Law.of_walk (plainFor_of_name (by decide +kernel)) (by decide +kernel) (by decide +kernel) (by decide) (fun _ _ h => by rw [h.1]; rfl) (fun _ U U' hal hh h => ⟨h.1, h.2.1.mv hal hh, h.2.2⟩) (fun r U U' V V' h1 hal h2 h => ⟨NewArr.mv r U U' V V' h1 hal h2 h.1, by rw [h1, h2]; exact h.2⟩) ?_
  intro p e s m args below meth c s₁ X0 hexec hbytes hml hret hlk hnm hown hh0 W hP
  obtain ⟨rfl, hA, l1, l2, hp⟩ := hP
  have a31 := hA.1.2.2.2
  have c1 : Steps p.tables e below (s₁.setTop (entryFrame m #[.ref b, .int (Int32.ofNat o), .int (Int32.ofNat len)] 6)) (s₁.setTop (mkF m 0 #[.val (.ref b), .val (.int (Int32.ofNat o)), .val (.int (Int32.ofNat len)), .unset, .unset, .unset] [])) := entry rfl
  have c2 : Steps p.tables e below (s₁.setTop (entryFrame m #[.ref b, .int (Int32.ofNat o), .int (Int32.ofNat len)] 6)) (s₁.setTop (mkF m 1 #[.val (.ref b), .val (.int (Int32.ofNat o)), .val (.int (Int32.ofNat len)), .unset, .unset, .unset] [.int (Int32.ofNat len)])) := c1.trans (by
    refine XS.iloadN X0.here hexec rfl (hb hbytes d0) rfl ?_
    exact Steps.refl _)
  obtain ⟨T3, B3, X3, ba3, bs3, bv3, bh3, bf3, st3⟩ := X0.anew hexec (atype := .byte) (wk W (.arrayClass .byte)) rfl (by show len * 1 ≤ _; omega) (by omega) (g := (mkF m 1 #[.val (.ref b), .val (.int (Int32.ofNat o)), .val (.int (Int32.ofNat len)), .unset, .unset, .unset] [.int (Int32.ofNat len)])) rfl (hb hbytes d1) (rest := []) rfl (Nat.le_refl _) (by show 0 + len ≤ len; omega)
  rw [hh0] at ba3 st3
  have kp3 : XT.Kept s T3 := (XT.Kept.of_eq hh0).push bh3
  have hA3 := hA.keep X3.warmed.alike (kp3 _ _ hA.1.1)
  have hne : b ≠ s.heap.size := hA.1.ne
  have c4 : Steps p.tables e below (s₁.setTop (entryFrame m #[.ref b, .int (Int32.ofNat o), .int (Int32.ofNat len)] 6)) (T3.setTop (mkF m 3 #[.val (.ref b), .val (.int (Int32.ofNat o)), .val (.int (Int32.ofNat len)), .unset, .unset, .unset] [.ref s.heap.size])) := c2.trans (st3 _ (Steps.refl _))
  have c5 : Steps p.tables e below (s₁.setTop (entryFrame m #[.ref b, .int (Int32.ofNat o), .int (Int32.ofNat len)] 6)) (T3.setTop (mkF m 9 #[.val (.ref b), .val (.int (Int32.ofNat o)), .val (.int (Int32.ofNat len)), .val (.ref s.heap.size), .unset, .unset] [.int (Int32.ofNat len), .int 0, .ref s.heap.size, .int (Int32.ofNat o), .ref b])) := c4.trans (by
    refine XS.astoreN X3.here hexec rfl (hb hbytes d3) rfl rfl rfl ?_
    refine XS.aloadN X3.here hexec rfl (hb hbytes d4) rfl rfl ?_
    refine XS.iloadN X3.here hexec rfl (hb hbytes d5) rfl ?_
    refine XS.aloadN X3.here hexec rfl (hb hbytes d6) rfl rfl ?_
    refine iconstV X3.here hexec rfl 0 (hb hbytes d7) (by decide) ?_
    refine XS.iloadN X3.here hexec rfl (hb hbytes d8) rfl ?_
    exact Steps.refl _)
  obtain ⟨v6, T6, X6, E6, g6⟩ := X3.callS hexec (Cmp5.law l b A s.heap.size B3 o 0 len) hown (wks W (staticW U16 115 Cmp5.yN)) (wk W Cmp5.tab) (W := 0) (Nat.le_of_ble_eq_true rfl) (Nat.le_of_ble_eq_true rfl) (Nat.le_refl _) (by show 0 + len + 0 ≤ len; omega) (g := (mkF m 9 #[.val (.ref b), .val (.int (Int32.ofNat o)), .val (.int (Int32.ofNat len)), .val (.ref s.heap.size), .unset, .unset] [.int (Int32.ofNat len), .int (Int32.ofNat 0), .ref s.heap.size, .int (Int32.ofNat o), .ref b])) rfl (by rw [hml]; rfl) c5 (argsL := [.ref b, .int (Int32.ofNat o), .ref s.heap.size, .int (Int32.ofNat 0), .int (Int32.ofNat len)]) (rest := []) rfl rfl (by show 2 * 0 + 0 ≤ _; decide) (hb hbytes d9) (⟨rfl, hA3, ba3, hne, l1, by rw [bs3]; simp, hp⟩)
  obtain ⟨rfl, B6, p6, f6⟩ := E6
  have c7 : Steps p.tables e below (s₁.setTop (entryFrame m #[.ref b, .int (Int32.ofNat o), .int (Int32.ofNat len)] 6)) (T6.setTop (mkF m 12 #[.val (.ref b), .val (.int (Int32.ofNat o)), .val (.int (Int32.ofNat len)), .val (.ref s.heap.size), .unset, .unset] [.int (Int32.ofNat len)])) := g6
  have c8 : Steps p.tables e below (s₁.setTop (entryFrame m #[.ref b, .int (Int32.ofNat o), .int (Int32.ofNat len)] 6)) (T6.setTop (mkF m 58 #[.val (.ref b), .val (.int (Int32.ofNat o)), .val (.int (Int32.ofNat len)), .val (.ref s.heap.size), .val (.int (Int32.ofNat len)), .unset] [.ref s.heap.size])) := c7.trans (by
    refine XS.istore X6.here hexec rfl (hb hbytes d12) rfl rfl ?_
    refine XS.iload X6.here hexec rfl (hb hbytes d14) rfl ?_
    refine XS.iloadN X6.here hexec rfl (hb hbytes d16) rfl ?_
    refine XS.icmpYes X6.here hexec rfl (pc0 := 17) rfl (hb hbytes d17) rfl (ii_eq_t rfl) (by decide) rfl ?_
    refine XS.aloadN X6.here hexec rfl (hb hbytes d57) rfl rfl ?_
    exact Steps.refl _)
  have X8 := X6.wide (L' := []) (cells' := 1) (slots' := len) (fun x hx hlt => by
    simp only [List.nil_append, copyLocs, List.mem_map, List.mem_range] at hx
    obtain ⟨i, -, rfl⟩ := hx
    exact absurd hlt (Nat.lt_irrefl _)) (Nat.le_refl _) (by omega)
  exact ⟨T6, some (.ref s.heap.size), _, _, _, X8, rfl, rfl, rfl, (fun h => by cases h), ⟨⟨rfl, B6, ba3.like (X3.warmed.alike.symm.trans X6.warmed.alike) p6.1 f6.1 f6.2.1 f6.2.2.1, f6.2.1.trans bv3, by rw [X6.warmed.alike.findClass, f6.1]; exact bf3, by rw [f6.2.2.1, bs3]; simp, fun j hj => by rw [f6.2.2.2 j, if_pos (by omega)]; rfl, kp3.put p6 (Nat.le_refl _)⟩, by rw [p6.2.2, bh3, hh0]; simp⟩, fun fs hl => c8.trans (X8.areturnOut hexec rfl hret rfl (hb hbytes d58) hl)⟩
end Cmp3
namespace CodL
def yN : MethodName := ⟨"java/lang/StringUTF16", "coderFromArrayLen", "([BI)B"⟩
abbrev yB : ByteArray := jdk_52_method_15_code
theorem d0 : decode yB 0 = .ok (.iload_n 1, 1) := by decide +kernel
theorem d1 : decode yB 1 = .ok (.aload_n 0, 1) := by decide +kernel
theorem d2 : decode yB 2 = .ok (.arraylength, 1) := by decide +kernel
theorem d3 : decode yB 3 = .ok (.isub, 1) := by decide +kernel
theorem d4 : decode yB 4 = .ok (.bipush 31, 2) := by decide +kernel
theorem d6 : decode yB 6 = .ok (.iushr, 1) := by decide +kernel
theorem d7 : decode yB 7 = .ok (.i2b, 1) := by decide +kernel
theorem d8 : decode yB 8 = .ok (.ireturn, 1) := by decide +kernel
def site : List Cond := []
def tab : Cond := tabOf yN yB 2 (some .byte) site
def P (d : Addr) (B : Cell) (args : Array Value) (s : State) : Prop := args = #[.ref d, .int (Int32.ofNat B.slots.size)] ∧ Arr .byte d B s
def E (r : Option Value) (s u : State) : Prop := XT.PureE (some (.int 0)) r s u
/-- an array as long as the number of chars: LATIN1 -/
theorem law (l : Launch) (d : Addr) (B : Cell) : Law l yN 2 2 0 0 yB 2 (some .byte) site (P d B) E [] 0 0 := by
  refine Law.of_walk (plainFor_of_name (by decide +kernel)) (by decide +kernel) (by decide +kernel) (by decide) (fun _ _ h => by rw [h.1]; rfl) (fun _ U U' hal hh h => ⟨h.1, h.2.mv hal hh⟩) (fun r U U' V V' h1 hal h2 h => XT.PureE.mv r U U' V V' h1 hal h2 h) ?_
  intro p e s m args below meth c s₁ X0 hexec hbytes hml hret hlk hnm hown hh0 W hP
  obtain ⟨rfl, hB⟩ := hP
  have hB0 := hB.mv X0.warmed.alike hh0
  have c1 : Steps p.tables e below (s₁.setTop (entryFrame m #[.ref d, .int (Int32.ofNat B.slots.size)] 2)) (s₁.setTop (mkF m 0 #[.val (.ref d), .val (.int (Int32.ofNat B.slots.size))] [])) := entry rfl
  have c2 : Steps p.tables e below (s₁.setTop (entryFrame m #[.ref d, .int (Int32.ofNat B.slots.size)] 2)) (s₁.setTop (mkF m 2 #[.val (.ref d), .val (.int (Int32.ofNat B.slots.size))] [.ref d, .int (Int32.ofNat B.slots.size)])) := c1.trans (by
    refine XS.iloadN X0.here hexec rfl (hb hbytes d0) rfl ?_
    refine XS.aloadN X0.here hexec rfl (hb hbytes d1) rfl rfl ?_
    exact Steps.refl _)
  have c3 : Steps p.tables e below (s₁.setTop (entryFrame m #[.ref d, .int (Int32.ofNat B.slots.size)] 2)) (s₁.setTop (mkF m 8 #[.val (.ref d), .val (.int (Int32.ofNat B.slots.size))] [.int (lo8 (ushr (Int32.ofNat B.slots.size - Int32.ofNat B.slots.size) 31))])) := c2.trans (by
    refine X0.alen hexec hB0 rfl rfl (hb hbytes d2) ?_
    refine XS.isub X0.here hexec rfl (hb hbytes d3) rfl ?_
    refine bipushV X0.here hexec rfl 31 (hb hbytes d4) (by decide) ?_
    refine iushr X0.here hexec rfl (hb hbytes d6) rfl ?_
    refine i2b X0.here hexec rfl (hb hbytes d7) rfl ?_
    exact Steps.refl _)
  have e0 : lo8 (ushr (Int32.ofNat B.slots.size - Int32.ofNat B.slots.size) 31) = 0 := by rw [Int32.sub_self]; decide
  rw [e0] at c3
  exact ⟨s₁, some (.int 0), _, _, _, X0, rfl, rfl, rfl, (fun h => by cases h), ⟨rfl, hh0⟩, fun fs hl => c3.trans (X0.ireturnOut hexec hret rfl (Or.inr (Or.inr (Or.inl rfl))) (hb hbytes d8) hl)⟩
end CodL
/-- the String at a is Latin-1 over a new byte[] (the heap's one new cell): the low bytes of the len chars of A from o on; every cell but a is kept -/
def Got (a : Addr) (D : Cell) (fV fC : Field) (A : Cell) (o len : Nat) (r : Option Value) (s u : State) : Prop := r = none ∧ ∃ D' V : Cell, Blank "java/lang/String" a D' u ∧ Same D D' [fV.slot, fC.slot] ∧ D'.slots[fV.slot]? = some (.ref s.heap.size) ∧ D'.slots[fC.slot]? = some (.int 0) ∧ Arr .byte s.heap.size V u ∧ V.vm = .none ∧ u.vm.findClass "[B" = some V.cls ∧ V.slots.size = len ∧ (∀ j, j < len → V.slots[j]? = some (.int (lo8 (cv A (o + j))))) ∧ (∀ (y : Addr) (c : Cell), y ≠ a → s.heap[y]? = some c → u.heap[y]? = some c) ∧ u.heap.size = s.heap.size + 1
theorem Got.mv {a : Addr} {D A : Cell} {fV fC : Field} {o len : Nat} : ∀ r (U U' V V' : State), U'.heap = U.heap → V.vm.Alike V'.vm → V'.heap = V.heap → Got a D fV fC A o len r U V → Got a D fV fC A o len r U' V' :=
  fun r U U' V V' h1 hal h2 ⟨e0, D', X, a1, a2, a3, a4, a5, a6, a7, a8, a9, a10, a11⟩ => ⟨e0, D', X, a1.mv hal h2, a2, by rw [h1]; exact a3, a4, by rw [h1]; exact a5.mv hal h2, a6, by rw [hal.findClass]; exact a7, a8, a9, by rw [h1, h2]; exact a10, by rw [h1, h2]; exact a11⟩
namespace New4
def yN : MethodName := ⟨"java/lang/String", "<init>", "([CIILjava/lang/Void;)V"⟩
abbrev yB : ByteArray := jdk_42_method_149_code
theorem d0 : decode yB 0 = .ok (.aload_n 0, 1) := by decide +kernel
theorem d1 : decode yB 1 = .ok (.invokespecial 1, 3) := by decide +kernel
theorem d4 : decode yB 4 = .ok (.iload_n 3, 1) := by decide +kernel
theorem d5 : decode yB 5 = .ok (.ifCond (.ne) 22, 3) := by decide +kernel
theorem d27 : decode yB 27 = .ok (.getstatic 38, 3) := by decide +kernel
theorem d30 : decode yB 30 = .ok (.ifCond (.eq) 28, 3) := by decide +kernel
theorem d33 : decode yB 33 = .ok (.aload_n 1, 1) := by decide +kernel
theorem d34 : decode yB 34 = .ok (.iload_n 2, 1) := by decide +kernel
theorem d35 : decode yB 35 = .ok (.iload_n 3, 1) := by decide +kernel
theorem d36 : decode yB 36 = .ok (.invokestatic 177, 3) := by decide +kernel
theorem d39 : decode yB 39 = .ok (.astore 5, 2) := by decide +kernel
theorem d41 : decode yB 41 = .ok (.aload_n 0, 1) := by decide +kernel
theorem d42 : decode yB 42 = .ok (.aload 5, 2) := by decide +kernel
theorem d44 : decode yB 44 = .ok (.iload_n 3, 1) := by decide +kernel
theorem d45 : decode yB 45 = .ok (.invokestatic 47, 3) := by decide +kernel
theorem d48 : decode yB 48 = .ok (.putfield 15, 3) := by decide +kernel
theorem d51 : decode yB 51 = .ok (.aload_n 0, 1) := by decide +kernel
theorem d52 : decode yB 52 = .ok (.aload 5, 2) := by decide +kernel
theorem d54 : decode yB 54 = .ok (.putfield 9, 3) := by decide +kernel
theorem d57 : decode yB 57 = .ok (.return_, 1) := by decide +kernel
def site : List Cond := [.fieldLink "java/lang/String" 38 "java/lang/String" "COMPACT_STRINGS" "Z", Cmp3.tab, CodL.tab, .laysFinal "java/lang/String" "java/lang/String" "value" "[B", .fieldLink "java/lang/String" 9 "java/lang/String" "value" "[B", .laysFinal "java/lang/String" "java/lang/String" "coder" "B", .fieldLink "java/lang/String" 15 "java/lang/String" "coder" "B"] ++ objW "java/lang/String" 1 ++ staticW "java/lang/String" 177 Cmp3.yN ++ staticW "java/lang/String" 47 CodL.yN
def tab : Cond := tabOf yN yB 6 none site
def P (a : Addr) (D : Cell) (fV fC : Field) (b : Addr) (A : Cell) (z : Int32) (o len : Nat) (args : Array Value) (s : State) : Prop := args = #[.ref a, .ref b, .int (Int32.ofNat o), .int (Int32.ofNat len), .null] ∧ Blank "java/lang/String" a D s ∧ Found "java/lang/String" "value" "[B" fV s ∧ Found "java/lang/String" "coder" "B" fC s ∧ Ch b A s ∧ StaticIs s "java/lang/String" "COMPACT_STRINGS" "Z" (.int z) ∧ ¬ z = 0 ∧ 0 < len ∧ o + len ≤ A.slots.size ∧ len ≤ 536870912 ∧ ∀ i, i < len → ¬ 255 < cv A (o + i)
def E (a : Addr) (D : Cell) (fV fC : Field) (A : Cell) (o len : Nat) (r : Option Value) (s u : State) : Prop := Got a D fV fC A o len r s u
/-- len > 0, no char of the range above 255: a Latin-1 String of their low bytes -/
theorem law (l : Launch) (a : Addr) (D : Cell) (fV fC : Field) (b : Addr) (A : Cell) (z : Int32) (o len : Nat) : Law l yN 5 4 2 35 yB 6 none site (P a D fV fC b A z o len) (E a D fV fC A o len) [⟨a, fC.slot⟩, ⟨a, fV.slot⟩] 1 len := by
  refine Law.of_walk (plainFor_of_name (by decide +kernel)) (by decide +kernel) (by decide +kernel) (by decide) (fun _ _ h => by rw [h.1]; rfl) (fun _ U U' hal hh h => ⟨h.1, h.2.1.mv hal hh, h.2.2.1.al hal, h.2.2.2.1.al hal, h.2.2.2.2.1.mv hal hh, h.2.2.2.2.2.1.there hal hh, h.2.2.2.2.2.2⟩) (fun r U U' V V' h1 hal h2 h => Got.mv r U U' V V' h1 hal h2 h) ?_
  intro p e s m args below meth c s₁ X0 hexec hbytes hml hret hlk hnm hown hh0 W hP
  obtain ⟨rfl, hB, f1, f2, hA, s1, hz, l0, l1, l2, hp⟩ := hP
  have a31 := hA.1.2.2.2
  have c1 : Steps p.tables e below (s₁.setTop (entryFrame m #[.ref a, .ref b, .int (Int32.ofNat o), .int (Int32.ofNat len), .null] 6)) (s₁.setTop (mkF m 0 #[.val (.ref a), .val (.ref b), .val (.int (Int32.ofNat o)), .val (.int (Int32.ofNat len)), .val .null, .unset] [])) := entry rfl
  have c2 : Steps p.tables e below (s₁.setTop (entryFrame m #[.ref a, .ref b, .int (Int32.ofNat o), .int (Int32.ofNat len), .null] 6)) (s₁.setTop (mkF m 1 #[.val (.ref a), .val (.ref b), .val (.int (Int32.ofNat o)), .val (.int (Int32.ofNat len)), .val .null, .unset] [.ref a])) := c1.trans (by
    refine XS.aloadN X0.here hexec rfl (hb hbytes d0) rfl rfl ?_
    exact Steps.refl _)
  obtain ⟨T3, X3, q3, st3⟩ := X0.oinit hexec hown (wks W (objW "java/lang/String" 1)) (g := (mkF m 1 #[.val (.ref a), .val (.ref b), .val (.int (Int32.ofNat o)), .val (.int (Int32.ofNat len)), .val .null, .unset] [.ref a])) rfl (by rw [hml]; rfl) (rest := []) rfl (hb hbytes d1) (W := 0) (by show 2 * 0 + 0 ≤ _; decide) (Nat.le_of_ble_eq_true rfl) (Nat.le_of_ble_eq_true rfl)
  have hh3 := q3.trans hh0
  have c4 : Steps p.tables e below (s₁.setTop (entryFrame m #[.ref a, .ref b, .int (Int32.ofNat o), .int (Int32.ofNat len), .null] 6)) (T3.setTop (mkF m 27 #[.val (.ref a), .val (.ref b), .val (.int (Int32.ofNat o)), .val (.int (Int32.ofNat len)), .val .null, .unset] [])) := (c2.trans (st3 _ (Steps.refl _))).trans (by
    refine XS.iloadN X3.here hexec rfl (hb hbytes d4) rfl ?_
    refine XS.ifYes X3.here hexec rfl (pc0 := 5) rfl (hb hbytes d5) rfl (i0_ne_t (nz32 (by omega) l0)) (by decide) rfl ?_
    exact Steps.refl _)
  obtain ⟨T5, X5, q5, st5⟩ := X3.sget hexec hown (wk W (.fieldLink "java/lang/String" 38 "java/lang/String" "COMPACT_STRINGS" "Z")) s1 (fun _ _ h => by rw [hh3]; exact h) (g := (mkF m 27 #[.val (.ref a), .val (.ref b), .val (.int (Int32.ofNat o)), .val (.int (Int32.ofNat len)), .val .null, .unset] [])) rfl (hb hbytes d27)
  have hh5 := q5.trans hh3
  have c6 : Steps p.tables e below (s₁.setTop (entryFrame m #[.ref a, .ref b, .int (Int32.ofNat o), .int (Int32.ofNat len), .null] 6)) (T5.setTop (mkF m 30 #[.val (.ref a), .val (.ref b), .val (.int (Int32.ofNat o)), .val (.int (Int32.ofNat len)), .val .null, .unset] [.int z])) := c4.trans (st5 _ (Steps.refl _))
  have c7 : Steps p.tables e below (s₁.setTop (entryFrame m #[.ref a, .ref b, .int (Int32.ofNat o), .int (Int32.ofNat len), .null] 6)) (T5.setTop (mkF m 36 #[.val (.ref a), .val (.ref b), .val (.int (Int32.ofNat o)), .val (.int (Int32.ofNat len)), .val .null, .unset] [.int (Int32.ofNat len), .int (Int32.ofNat o), .ref b])) := c6.trans (by
    refine XS.ifNo X5.here hexec rfl (hb hbytes d30) rfl (i0_eq_f hz) ?_
    refine XS.aloadN X5.here hexec rfl (hb hbytes d33) rfl rfl ?_
    refine XS.iloadN X5.here hexec rfl (hb hbytes d34) rfl ?_
    refine XS.iloadN X5.here hexec rfl (hb hbytes d35) rfl ?_
    exact Steps.refl _)
  obtain ⟨v8, T8, X8, E8, g8⟩ := X5.callS hexec (Cmp3.law l b A o len) hown (wks W (staticW "java/lang/String" 177 Cmp3.yN)) (wk W Cmp3.tab) (W := 0) (Nat.le_of_ble_eq_true rfl) (Nat.le_of_ble_eq_true rfl) (Nat.le_refl _) (by show 0 + len ≤ len; omega) (g := (mkF m 36 #[.val (.ref a), .val (.ref b), .val (.int (Int32.ofNat o)), .val (.int (Int32.ofNat len)), .val .null, .unset] [.int (Int32.ofNat len), .int (Int32.ofNat o), .ref b])) rfl (by rw [hml]; rfl) c7 (argsL := [.ref b, .int (Int32.ofNat o), .int (Int32.ofNat len)]) (rest := []) rfl rfl (by show 2 * 0 + 0 ≤ _; decide) (hb hbytes d36) (⟨rfl, hA.mv X5.warmed.alike hh5, l1, l2, hp⟩)
  obtain ⟨e8, z8⟩ := E8
  obtain ⟨rfl, N, n1, n2, n3, n4, n5, n6⟩ := NewArr.mv _ T5 s _ _ hh5.symm (Vm.Alike.refl _) rfl e8
  rw [hh5] at z8
  have hB1 := hB.keep X8.warmed.alike (n6 _ _ hB.1)
  have hne : s.heap.size ≠ a := (Nat.ne_of_lt (Array.getElem?_eq_some_iff.mp hB.1).1).symm
  have c9 : Steps p.tables e below (s₁.setTop (entryFrame m #[.ref a, .ref b, .int (Int32.ofNat o), .int (Int32.ofNat len), .null] 6)) (T8.setTop (mkF m 39 #[.val (.ref a), .val (.ref b), .val (.int (Int32.ofNat o)), .val (.int (Int32.ofNat len)), .val .null, .unset] [.ref s.heap.size])) := g8
  have c10 : Steps p.tables e below (s₁.setTop (entryFrame m #[.ref a, .ref b, .int (Int32.ofNat o), .int (Int32.ofNat len), .null] 6)) (T8.setTop (mkF m 45 #[.val (.ref a), .val (.ref b), .val (.int (Int32.ofNat o)), .val (.int (Int32.ofNat len)), .val .null, .val (.ref s.heap.size)] [.int (Int32.ofNat N.slots.size), .ref s.heap.size, .ref a])) := by
    have hc : Steps p.tables e below (s₁.setTop (entryFrame m #[.ref a, .ref b, .int (Int32.ofNat o), .int (Int32.ofNat len), .null] 6)) (T8.setTop (mkF m 45 #[.val (.ref a), .val (.ref b), .val (.int (Int32.ofNat o)), .val (.int (Int32.ofNat len)), .val .null, .val (.ref s.heap.size)] [.int (Int32.ofNat len), .ref s.heap.size, .ref a])) := c9.trans (by
      refine XS.astore X8.here hexec rfl (hb hbytes d39) rfl rfl rfl ?_
      refine XS.aloadN X8.here hexec rfl (hb hbytes d41) rfl rfl ?_
      refine XS.aload X8.here hexec rfl (hb hbytes d42) rfl rfl ?_
      refine XS.iloadN X8.here hexec rfl (hb hbytes d44) rfl ?_
      exact Steps.refl _)
    rw [n4]; exact hc
  obtain ⟨v11, T11, X11, E11, g11⟩ := X8.callS hexec (CodL.law l s.heap.size N) hown (wks W (staticW "java/lang/String" 47 CodL.yN)) (wk W CodL.tab) (W := 1) (Nat.le_of_ble_eq_true rfl) (Nat.le_of_ble_eq_true rfl) (Nat.le_refl _) (by show 0 + len + 0 ≤ len; omega) (g := (mkF m 45 #[.val (.ref a), .val (.ref b), .val (.int (Int32.ofNat o)), .val (.int (Int32.ofNat len)), .val .null, .val (.ref s.heap.size)] [.int (Int32.ofNat N.slots.size), .ref s.heap.size, .ref a])) rfl (by rw [hml]; rfl) c10 (argsL := [.ref s.heap.size, .int (Int32.ofNat N.slots.size)]) (rest := [.ref a]) rfl rfl (by show 2 * 0 + (1 + 0) ≤ _; decide) (hb hbytes d45) (⟨rfl, n1⟩)
  obtain ⟨rfl, q11⟩ := E11
  have hB11 := hB1.mv (X8.warmed.alike.symm.trans X11.warmed.alike) q11
  have c12 : Steps p.tables e below (s₁.setTop (entryFrame m #[.ref a, .ref b, .int (Int32.ofNat o), .int (Int32.ofNat len), .null] 6)) (T11.setTop (mkF m 48 #[.val (.ref a), .val (.ref b), .val (.int (Int32.ofNat o)), .val (.int (Int32.ofNat len)), .val .null, .val (.ref s.heap.size)] [.int 0, .ref a])) := g11
  obtain ⟨T13, X13, p13, bl13, sl13, st13⟩ := X11.finit hexec hown (wk W (.fieldLink "java/lang/String" 15 "java/lang/String" "coder" "B")) (Or.inr ⟨_, (wk W (.laysFinal "java/lang/String" "java/lang/String" "coder" "B"))⟩) (Or.inl ⟨rfl, hnm⟩) f2 (Or.inl rfl) hB11 (t := .byte) (by decide +kernel) rfl (g := (mkF m 48 #[.val (.ref a), .val (.ref b), .val (.int (Int32.ofNat o)), .val (.int (Int32.ofNat len)), .val .null, .val (.ref s.heap.size)] [.int 0, .ref a])) rfl (rest := []) rfl (hb hbytes d48)
  have c14 : Steps p.tables e below (s₁.setTop (entryFrame m #[.ref a, .ref b, .int (Int32.ofNat o), .int (Int32.ofNat len), .null] 6)) (T13.setTop (mkF m 54 #[.val (.ref a), .val (.ref b), .val (.int (Int32.ofNat o)), .val (.int (Int32.ofNat len)), .val .null, .val (.ref s.heap.size)] [.ref s.heap.size, .ref a])) := (c12.trans (st13 _ (Steps.refl _))).trans (by
    refine XS.aloadN X13.here hexec rfl (hb hbytes d51) rfl rfl ?_
    refine XS.aload X13.here hexec rfl (hb hbytes d52) rfl rfl ?_
    exact Steps.refl _)
  obtain ⟨T15, X15, p15, bl15, sl15, st15⟩ := X13.finit hexec hown (wk W (.fieldLink "java/lang/String" 9 "java/lang/String" "value" "[B")) (Or.inr ⟨_, (wk W (.laysFinal "java/lang/String" "java/lang/String" "value" "[B"))⟩) (Or.inl ⟨rfl, hnm⟩) f1 (Or.inl rfl) bl13 (t := (.array .byte)) (by decide +kernel) rfl (g := (mkF m 54 #[.val (.ref a), .val (.ref b), .val (.int (Int32.ofNat o)), .val (.int (Int32.ofNat len)), .val .null, .val (.ref s.heap.size)] [.ref s.heap.size, .ref a])) rfl (rest := []) rfl (hb hbytes d54)
  have c16 : Steps p.tables e below (s₁.setTop (entryFrame m #[.ref a, .ref b, .int (Int32.ofNat o), .int (Int32.ofNat len), .null] 6)) (T15.setTop (mkF m 57 #[.val (.ref a), .val (.ref b), .val (.int (Int32.ofNat o)), .val (.int (Int32.ofNat len)), .val .null, .val (.ref s.heap.size)] [])) := c14.trans (st15 _ (Steps.refl _))
  have ap := apart (Or.inr ⟨_, (wk W (.laysFinal "java/lang/String" "java/lang/String" "value" "[B"))⟩) (Or.inr ⟨_, (wk W (.laysFinal "java/lang/String" "java/lang/String" "coder" "B"))⟩) f1 f2 (t₁ := .array .byte) (t₂ := .byte) (by decide +kernel) (by decide +kernel) (by decide)
  have al := X8.warmed.alike.symm.trans X15.warmed.alike
  have n7 : T11.heap[s.heap.size]? = some N := by rw [q11]; exact n1.1
  exact ⟨T15, none, _, _, _, X15, by simp, rfl, by omega, (fun _ => rfl), ⟨rfl, _, N, bl15, ((Same.refl D _).set _ (by simp)).set _ (by simp), sl15, (Cell.slots_setSlot_ne _ ap).trans sl13, n1.keep al (p15.other hne (p13.other hne n7)), n2, by rw [al.findClass]; exact n3, n4, n5, fun y c h1 h2 => p15.other h1 (p13.other h1 (by rw [q11]; exact n6 y c h2)), by rw [p15.2.2, p13.2.2, q11]; exact z8⟩, fun fs hl => c16.trans (X15.returnOut hexec hret (hb hbytes d57) hl)⟩
end New4
namespace New1
def yN : MethodName := ⟨"java/lang/String", "<init>", "([C)V"⟩
abbrev yB : ByteArray := jdk_42_method_3_code
theorem d0 : decode yB 0 = .ok (.aload_n 0, 1) := by decide +kernel
theorem d1 : decode yB 1 = .ok (.aload_n 1, 1) := by decide +kernel
theorem d2 : decode yB 2 = .ok (.iconst 0, 1) := by decide +kernel
theorem d3 : decode yB 3 = .ok (.aload_n 1, 1) := by decide +kernel
theorem d4 : decode yB 4 = .ok (.arraylength, 1) := by decide +kernel
theorem d5 : decode yB 5 = .ok (.aconst_null, 1) := by decide +kernel
theorem d6 : decode yB 6 = .ok (.invokespecial 27, 3) := by decide +kernel
theorem d9 : decode yB 9 = .ok (.return_, 1) := by decide +kernel
def site : List Cond := [New4.tab] ++ initW "java/lang/String" 27 New4.yN
def tab : Cond := tabOf yN yB 2 none site
def P (a : Addr) (D : Cell) (fV fC : Field) (b : Addr) (A : Cell) (z : Int32) (args : Array Value) (s : State) : Prop := args = #[.ref a, .ref b] ∧ Blank "java/lang/String" a D s ∧ Found "java/lang/String" "value" "[B" fV s ∧ Found "java/lang/String" "coder" "B" fC s ∧ Ch b A s ∧ StaticIs s "java/lang/String" "COMPACT_STRINGS" "Z" (.int z) ∧ ¬ z = 0 ∧ 0 < A.slots.size ∧ A.slots.size ≤ 536870912 ∧ ∀ i, i < A.slots.size → ¬ 255 < cv A i
def E (a : Addr) (D : Cell) (fV fC : Field) (A : Cell) (r : Option Value) (s u : State) : Prop := Got a D fV fC A 0 A.slots.size r s u
/-- new String(chars), not empty, no char above 255: a Latin-1 String of their low bytes -/
theorem law (l : Launch) (a : Addr) (D : Cell) (fV fC : Field) (b : Addr) (A : Cell) (z : Int32) : Law l yN 2 1 3 52 yB 2 none site (P a D fV fC b A z) (E a D fV fC A) [⟨a, fC.slot⟩, ⟨a, fV.slot⟩] 1 A.slots.size := by
  refine Law.of_walk (plainFor_of_name (by decide +kernel)) (by decide +kernel) (by decide +kernel) (by decide) (fun _ _ h => by rw [h.1]; rfl) (fun _ U U' hal hh h => ⟨h.1, h.2.1.mv hal hh, h.2.2.1.al hal, h.2.2.2.1.al hal, h.2.2.2.2.1.mv hal hh, h.2.2.2.2.2.1.there hal hh, h.2.2.2.2.2.2⟩) (fun r U U' V V' h1 hal h2 h => Got.mv r U U' V V' h1 hal h2 h) ?_
  intro p e s m args below meth c s₁ X0 hexec hbytes hml hret hlk hnm hown hh0 W hP
  obtain ⟨rfl, hB, f1, f2, hA, s1, hz, l0, l2, hp⟩ := hP
  have c1 : Steps p.tables e below (s₁.setTop (entryFrame m #[.ref a, .ref b] 2)) (s₁.setTop (mkF m 0 #[.val (.ref a), .val (.ref b)] [])) := entry rfl
  have c2 : Steps p.tables e below (s₁.setTop (entryFrame m #[.ref a, .ref b] 2)) (s₁.setTop (mkF m 6 #[.val (.ref a), .val (.ref b)] [.null, .int (Int32.ofNat A.slots.size), .int 0, .ref b, .ref a])) := c1.trans (by
    refine XS.aloadN X0.here hexec rfl (hb hbytes d0) rfl rfl ?_
    refine XS.aloadN X0.here hexec rfl (hb hbytes d1) rfl rfl ?_
    refine iconstV X0.here hexec rfl 0 (hb hbytes d2) (by decide) ?_
    refine XS.aloadN X0.here hexec rfl (hb hbytes d3) rfl rfl ?_
    refine X0.alen hexec (hA.1.mv X0.warmed.alike hh0) rfl rfl (hb hbytes d4) ?_
    refine XS.aconstNull X0.here hexec rfl (hb hbytes d5) ?_
    exact Steps.refl _)
  obtain ⟨v3, T3, X3, E3, g3⟩ := X0.callN hexec (New4.law l a D fV fC b A z 0 A.slots.size) rfl hown (wks W (initW "java/lang/String" 27 New4.yN)) (W New4.tab (by simp only [site, List.mem_cons, List.mem_append, true_or, or_true])) (W := 0) (Nat.le_of_ble_eq_true rfl) (Nat.le_of_ble_eq_true rfl) (Nat.le_refl _) (by show 0 + A.slots.size ≤ A.slots.size; omega) (g := (mkF m 6 #[.val (.ref a), .val (.ref b)] [.null, .int (Int32.ofNat A.slots.size), .int (Int32.ofNat 0), .ref b, .ref a])) rfl (by rw [hml]; rfl) c2 (argsL := [.ref b, .int (Int32.ofNat 0), .int (Int32.ofNat A.slots.size), .null]) (rest := []) rfl rfl (by show 2 * 0 + 0 ≤ _; decide) (hb hbytes d6) (⟨rfl, hB.mv X0.warmed.alike hh0, f1.al X0.warmed.alike, f2.al X0.warmed.alike, hA.mv X0.warmed.alike hh0, s1.there X0.warmed.alike hh0, hz, l0, by omega, l2, fun i hi => by rw [Nat.zero_add]; exact hp i hi⟩)
  have e0 := Got.mv _ s₁ s _ _ hh0.symm (Vm.Alike.refl _) rfl E3
  obtain rfl := e0.1
  have c4 : Steps p.tables e below (s₁.setTop (entryFrame m #[.ref a, .ref b] 2)) (T3.setTop (mkF m 9 #[.val (.ref a), .val (.ref b)] [])) := g3
  exact ⟨T3, none, _, _, _, X3, by simp, rfl, by omega, (fun _ => rfl), e0, fun fs hl => c4.trans (X3.returnOut hexec hret (hb hbytes d9) hl)⟩
theorem pays {l : Launch} {R : Room} {p : Program} {e : Env} {below : List Frame} {s : State} {sargs : Array Value} {len W : Nat} (a : Addr) (D : Cell) (fV fC : Field) (b : Addr) (A : Cell) (z : Int32) (htab : tab.before sargs s = true) (hfr : 4 ≤ R.frames) (hlo : W + 65 ≤ R.locals) :
    Back l R p e below s sargs yN len W (fun A₁ a₁ => A₁.cells + 1 ≤ R.cells ∧ A₁.slots + A.slots.size ≤ R.slots ∧ P a D fV fC b A z a₁ A₁.U) (fun A₁ _ v₁ B₁ => E a D fV fC A v₁ A₁.U B₁.U ∧ B₁.locs = A₁.locs ++ [⟨a, fC.slot⟩, ⟨a, fV.slot⟩] ∧ B₁.cells = A₁.cells + 1 ∧ B₁.slots = A₁.slots + A.slots.size) :=
  (law l a D fV fC b A z).pays htab hfr (by omega)
end New1
/-- the byte, read back as charAt reads it, is the char -/
theorem lo8_mask {x : Int32} (h0 : ¬ x < 0) (h1 : ¬ 255 < x) : lo8 x &&& 255 = x := by
  have t : ∀ k : Fin 256, lo8 (Int32.ofNat k.val) &&& 255 = Int32.ofNat k.val := by decide +kernel
  rw [Int32.lt_iff_toInt_lt] at h0 h1
  have e0 : (0 : Int32).toInt = 0 := rfl
  have e1 : (255 : Int32).toInt = 255 := rfl
  obtain ⟨k, hk⟩ : ∃ k : Nat, x.toInt = k := ⟨x.toInt.toNat, by omega⟩
  have hx : x = Int32.ofNat k := Int32.toInt_inj.mp (by rw [hk, Int32.toInt_ofNat_small (by omega)])
  rw [hx]
  exact t ⟨k, by omega⟩
end StrChars
namespace StrChars.Road
open Jvm Sem ClassFile Op Lib Jvm.Stand Jvm.Free Jvm.Free.XT
open Jvm.Lib.Cold (StaticIs)
abbrev ST : String := "java/lang/String"
/-- every table word that New1's law asks, flat -/
abbrev words : List Jvm.Cond := [.code New1.yN New1.yB 2 none, .initialized ST, .methodLink ST 27 New4.yN, .instanceMethod New4.yN,
  .code New4.yN New4.yB 6 none, .fieldLink ST 38 ST "COMPACT_STRINGS" "Z", .laysFinal ST ST "value" "[B", .fieldLink ST 9 ST "value" "[B", .laysFinal ST ST "coder" "B", .fieldLink ST 15 ST "coder" "B",
  .methodLink ST 1 Lib.objectInit, .instanceMethod Lib.objectInit, .code Lib.objectInit ⟨#[0xb1]⟩ 1 none, .methodLink ST 177 Cmp3.yN, .static Cmp3.yN, .methodLink ST 47 CodL.yN, .static CodL.yN,
  .code Cmp3.yN Cmp3.yB 6 (some (.array .byte)), .initialized U16, .arrayClass .byte, .methodLink U16 115 Cmp5.yN, .static Cmp5.yN, .code Cmp5.yN Cmp5.yB 7 (some .int), .code CodL.yN CodL.yB 2 (some .byte)]
theorem tab_of {a : Array Value} {s : State} (h : ∀ w ∈ words, w.before a s = true) : New1.tab.before a s = true := by
  have h5 : Cmp5.tab.before a s = true := unparts (wk h (.code Cmp5.yN Cmp5.yB 7 (some .int))) (wks h (.initialized Cmp5.yN.cls :: Cmp5.site))
  have hc : CodL.tab.before a s = true := unparts (wk h (.code CodL.yN CodL.yB 2 (some .byte))) (wks h (.initialized CodL.yN.cls :: CodL.site))
  have q5 : ∀ w ∈ Cmp5.tab :: words, w.before a s = true := fun w hw => (List.mem_cons.mp hw).elim (fun e => e ▸ h5) (h w)
  have h3 : Cmp3.tab.before a s = true := unparts (wk q5 (.code Cmp3.yN Cmp3.yB 6 (some (.array .byte)))) (wks q5 (.initialized Cmp3.yN.cls :: Cmp3.site))
  have q3 : ∀ w ∈ Cmp3.tab :: CodL.tab :: words, w.before a s = true := fun w hw => (List.mem_cons.mp hw).elim (fun e => e ▸ h3) fun hw => (List.mem_cons.mp hw).elim (fun e => e ▸ hc) (h w)
  have h4 : New4.tab.before a s = true := unparts (wk q3 (.code New4.yN New4.yB 6 none)) (wks q3 (.initialized New4.yN.cls :: New4.site))
  have q4 : ∀ w ∈ New4.tab :: words, w.before a s = true := fun w hw => (List.mem_cons.mp hw).elim (fun e => e ▸ h4) (h w)
  exact unparts (wk q4 (.code New1.yN New1.yB 2 none)) (wks q4 (.initialized New1.yN.cls :: New1.site))
/-- the words ride from the start Z to the walk's own state -/
theorem moved {Z s : State} {a0 args : Array Value} (hZ : Z.Warmed39 s.vm) (hw : ∀ d ∈ words, d.before a0 Z = true) : ∀ d ∈ words, d.before args s = true := fun d hd => by
  have q := hw d hd
  have t : ∀ d ∈ words, d = .arrayClass .byte ∨ (d.onTables && d.keepsFace) = true := by decide +kernel
  rcases t d hd with rfl | t
  · exact RoadKit.mvA hZ q
  · exact RoadKit.mv hZ q t
/-- WHAT COMES BACK, over the tables of the start Z: h the heap at the call, h' behind it -/
def Q (Z : State) (x : Addr) (A : Cell) (h : Heap) (v : Option Value) (h' : Heap) (L : List Loc) : Prop := v = none ∧ (∀ y ∈ L, y.base = x) ∧ RoadKit.Keep h h' [x] ∧ h'.size = h.size + 1 ∧ RoadKit.Exa Z h' x ST ∧ RoadKit.Fld Z h' x ST "value" "[B" (.ref h.size) ∧ RoadKit.Fld Z h' x ST "coder" "B" (.int 0) ∧
  (∃ V : Cell, RoadKit.Arr Z h' h.size V .byte ∧ V.vm = .none ∧ Z.vm.findClass "[B" = some V.cls ∧ V.slots.size = A.slots.size ∧ ∀ j, j < A.slots.size → V.slots[j]? = some (.int (lo8 (cv A j)))) ∧
  ∀ (O n d : String) (w : Value), RoadKit.Fld Z h x O n d w → RoadKit.slotOf Z O n d ≠ RoadKit.slotOf Z ST "value" "[B" → RoadKit.slotOf Z O n d ≠ RoadKit.slotOf Z ST "coder" "B" → RoadKit.Fld Z h' x O n d w
/-- **new String(chars) AT A CALL, IN THE ROAD'S FORM**: for specialBack behind newO: x the fresh String, b the char[] with the cell A -/
theorem back {p : Program} {l : Launch} {e : Env} {R : Room} {s : State} {args : Array Value} {below : List Frame} {len W : Nat} {Z : State} {a0 : Array Value} {h : Heap} (hZ : Z.Warmed39 s.vm) (hw : ∀ d ∈ words, d.before a0 Z = true) {kI : Nat} (wi : (Jvm.Cond.instantiable ST kI).before a0 Z = true)
    {x b : Addr} {A : Cell} {z : Int32} {v0 c0 : Value} (E : RoadKit.Exa Z h x ST) (V : RoadKit.Fld Z h x ST "value" "[B" v0) (C : RoadKit.Fld Z h x ST "coder" "B" c0) (K : RoadKit.Arr Z h b A .char) (hty : Typed .char A) (S : RoadKit.Sta Z h ST "COMPACT_STRINGS" "Z" (.int z)) (hz : ¬ z = 0)
    (l0 : 0 < A.slots.size) (l2 : A.slots.size ≤ 536870912) (hp : ∀ i, i < A.slots.size → ¬ 255 < cv A i) (hfr : 4 ≤ R.frames) (hlo : W + 65 ≤ R.locals) :
    Back l R p e below s args New1.yN len W (fun P a => a = #[.ref x, .ref b] ∧ P.U.heap = h ∧ P.cells + 1 ≤ R.cells ∧ P.slots + A.slots.size ≤ R.slots)
      (fun P _ v B => ∃ L, Q Z x A h v B.U.heap L ∧ B.locs = P.locs ++ L ∧ B.cells = P.cells + 1 ∧ B.slots = P.slots + A.slots.size) := by
  intro m meth c P g ig mk a X hg hsize hdg hW hn hp'
  obtain ⟨rfl, rfl, r1, r2⟩ := hp'
  have al : Z.vm.Alike P.U.vm := hZ.alike.trans X.warmed.alike
  obtain ⟨D, cfV, kV, iV, fV, hD, gV, stV, knV, obV, asV, slV⟩ := id V
  obtain ⟨D', cfC, kC, iC, fC, hD', gC, stC, -, -, asC, slC⟩ := id C
  cases hD.symm.trans hD'
  obtain ⟨D2, kD, e1, e2, e3, e4, e5⟩ := id E
  cases hD.symm.trans e1
  obtain ⟨c2, k2, i1, i2, i3, -⟩ := Cond.instantiable_spec wi
  cases e2.symm.trans i1
  cases e3.symm.trans i2
  obtain ⟨kU, u1, u2⟩ := al.2.2 _ _ e3
  have hB : Blank ST x D P.U := ⟨hD, ⟨knV, fun q hq => by rw [hq] at obV; cases obV⟩, by rw [al.findClass]; exact e2, kU, u1, by rw [u2]; exact i3, by rw [u2]; exact e5 i3⟩
  have F1 : Found ST "value" "[B" fV P.U := ⟨SBG.found_only al ⟨cfV, kV, iV, gV⟩, stV⟩
  have F2 : Found ST "coder" "B" fC P.U := ⟨SBG.found_only al ⟨cfC, kC, iC, gC⟩, stC⟩
  have hA : Ch b A P.U := ⟨⟨K.1, State.isArrayOf_alike al K.2.1, K.2.2, by omega⟩, hty⟩
  have hS : StaticIs P.U ST "COMPACT_STRINGS" "Z" (.int z) := by
    obtain ⟨cfS, iS, kS, fS, st, cS, t1, t2, t3, t4, t5, t6, t7⟩ := S
    exact StaticIs.there (s := { Z with heap := P.U.heap }) ⟨cfS, iS, kS, fS, st, cS, t1, t2, t3, t4, t5, (fun q => by rw [q] at t6; cases t6), t7⟩ al rfl
  obtain ⟨v, B, X', ⟨⟨hv, E', V', q1, q2, q3, q4, q5, q6, q7, q8, q9, q10, q11⟩, hl, hc, hs⟩, st⟩ := New1.pays x D fV fC b A z (tab_of (moved hZ hw)) hfr hlo m meth c P g ig mk _ X hg hsize hdg hW hn ⟨r1, r2, rfl, hB, F1, F2, hA, hS, hz, l0, l2, hp⟩
  have al' : Z.vm.Alike B.U.vm := hZ.alike.trans X'.warmed.alike
  have hsz : E'.slots.size = D.slots.size := by
    obtain ⟨-, -, -, kB, w1, w2, w3⟩ := q1
    obtain ⟨kB', y1, y2⟩ := al'.2.2 _ _ e3
    rw [q2.2.1] at w1
    cases w1.symm.trans y1
    rw [w3, e5 i3, y2]
  refine ⟨v, B, X', ⟨_, ⟨hv, ?_, ⟨by omega, fun y cy hy hn' => q10 y cy (by simpa using hn') hy, fun y cy hy => ?_⟩, q11, ⟨E', _, q1.1, by rw [q2.2.1]; exact e2, by rw [q2.2.1]; exact e3, by rw [q2.1]; exact obV, fun _ => by rw [hsz]; exact e5 i3⟩,
    ⟨E', cfV, kV, iV, fV, q1.1, gV, stV, by rw [q2.1]; exact knV, by rw [q2.1]; exact obV, by rw [q2.2.1]; exact asV, q3⟩, ⟨E', cfC, kC, iC, fC, q1.1, gC, stC, by rw [q2.1]; exact knV, by rw [q2.1]; exact obV, by rw [q2.2.1]; exact asC, q4⟩,
    ⟨V', ⟨q5.1, State.isArrayOf_alike al'.symm q5.2.1, q5.2.2.1⟩, q6, by rw [← al'.findClass]; exact q7, q8, fun j hj => by have := q9 j hj; rwa [Nat.zero_add] at this⟩, fun O n d w F n1 n2 => ?_⟩, hl, hc, hs⟩, st⟩
  · intro y hy
    simp only [List.mem_cons, List.not_mem_nil, or_false] at hy
    rcases hy with rfl | rfl <;> rfl
  · by_cases q : y = x
    · subst q
      cases hD.symm.trans hy
      exact ⟨E', q1.1, q2.2.1, q2.1, hsz⟩
    · exact ⟨cy, q10 y cy q hy, rfl, rfl, rfl⟩
  · obtain ⟨D3, cf, k, i, f, g1, g2, g3, g4, g5, g6, g7⟩ := F
    cases hD.symm.trans g1
    simp only [RoadKit.slotOf, g2, gV, gC, Option.map_some, Option.getD_some] at n1 n2
    exact ⟨E', cf, k, i, f, q1.1, g2, g3, by rw [q2.1]; exact g4, by rw [q2.1]; exact g5, by rw [q2.2.1]; exact g6, by rw [q2.2.2 f.slot (by simp [n1, n2])]; exact g7⟩
end StrChars.Road
namespace StrChars.Road
open Jvm Sem ClassFile Op Lib Jvm.Stand Jvm.Free Jvm.Free.XT
/-- WHAT COMES BACK, the byte[] as a list of values -/
def QA (Z : State) (x : Addr) (zn : Int32) (cs : List Int32) (h : Heap) (v : Option Value) (h' : Heap) (L : List Loc) : Prop := v = none ∧ (∀ y ∈ L, y.base = x) ∧ RoadKit.Keep h h' [x] ∧ h'.size = h.size + 1 ∧ RoadKit.Exa Z h' x ST ∧ RoadKit.Fld Z h' x ST "value" "[B" (.ref h.size) ∧ RoadKit.Fld Z h' x ST "coder" "B" (.int 0) ∧
  (∃ kb, Z.vm.findClass "[B" = some kb ∧ RoadKit.Arv Z h' h.size kb .byte zn (cs.map fun c => .int (lo8 c)) (.int 0)) ∧
  ∀ (O n d : String) (w : Value), RoadKit.Fld Z h x O n d w → RoadKit.slotOf Z O n d ≠ RoadKit.slotOf Z ST "value" "[B" → RoadKit.slotOf Z O n d ≠ RoadKit.slotOf Z ST "coder" "B" → RoadKit.Fld Z h' x O n d w
/-- **new String(chars) AT A CALL, THE ARRAYS AS LISTS**: the char[] at b holds cs, not empty, no char above 255 -/
theorem backArv {p : Program} {l : Launch} {e : Env} {R : Room} {s : State} {args : Array Value} {below : List Frame} {len W : Nat} {Z : State} {a0 : Array Value} {h : Heap} (hZ : Z.Warmed39 s.vm) (hw : ∀ d ∈ words, d.before a0 Z = true) {kI : Nat} (wi : (Jvm.Cond.instantiable ST kI).before a0 Z = true)
    {x b : Addr} {k : ClassId} {zn z : Int32} {cs : List Int32} {dv v0 c0 : Value} (E : RoadKit.Exa Z h x ST) (V : RoadKit.Fld Z h x ST "value" "[B" v0) (C : RoadKit.Fld Z h x ST "coder" "B" c0) (K : RoadKit.Arv Z h b k .char zn (cs.map Value.int) dv) (S : RoadKit.Sta Z h ST "COMPACT_STRINGS" "Z" (.int z)) (hz : ¬ z = 0)
    (hlen : zn.toNatClampNeg = cs.length) (h0 : 0 < cs.length) (hbig : cs.length ≤ 536870912) (hall : ∀ c ∈ cs, ¬ 255 < c) (hfr : 4 ≤ R.frames) (hlo : W + 65 ≤ R.locals) :
    Back l R p e below s args New1.yN len W (fun P a => a = #[.ref x, .ref b] ∧ P.U.heap = h ∧ P.cells + 1 ≤ R.cells ∧ P.slots + cs.length ≤ R.slots)
      (fun P _ v B => ∃ L, QA Z x zn cs h v B.U.heap L ∧ B.locs = P.locs ++ L ∧ B.cells = P.cells + 1 ∧ B.slots = P.slots + cs.length) := by
  obtain ⟨A, K1, K2, K3, K4, K5, K6⟩ := K
  have e : A.slots.size = cs.length := K3.trans hlen
  have hat : ∀ (i : Nat) (hi : i < cs.length), A.slots[i]? = some (.int cs[i]) := fun i hi => by rw [K5 i (by omega)]; simp [List.getD_eq_getElem?_getD, hi]
  have hcv : ∀ (i : Nat) (hi : i < cs.length), cv A i = cs[i] := fun i hi => by unfold cv; rw [hat i hi]
  have hty : Typed .char A := fun i v hv => by
    have hi : i < A.slots.size := (Array.getElem?_eq_some_iff.mp hv).1
    have q := K5 i hi
    rw [hv] at q
    rw [Option.some.inj q]
    exact K6 i hi
  refine Back.mono (back hZ hw wi E V C K1 hty S hz (by omega) (by omega) (fun i hi => by rw [hcv i (by omega)]; exact hall _ (List.getElem_mem _)) hfr hlo) (fun P a hp => ⟨hp.1, hp.2.1, hp.2.2.1, by rw [e]; exact hp.2.2.2⟩) (fun P a v B hp hq => ?_)
  obtain ⟨L, ⟨q1, q2, q3, q4, q5, q6, q7, ⟨V', v1, v2, v3, v4, v5⟩, q9⟩, hl, hc, hs⟩ := hq
  refine ⟨L, ⟨q1, q2, q3, q4, q5, q6, q7, ⟨V'.cls, v3, V', v1, rfl, by rw [v4, e, hlen], K4, fun i hi => ?_, fun i hi => ?_⟩, q9⟩, hl, hc, by rw [hs, e]⟩
  · have hi' : i < cs.length := by omega
    rw [v5 i (by omega), hcv i hi']; simp [List.getD_eq_getElem?_getD, hi']
  · have hi' : i < cs.length := by omega
    simp only [List.getD_eq_getElem?_getD, List.getElem?_map, List.getElem?_eq_getElem hi', Option.map_some, Option.getD_some]
    exact fits_lo8 _
end StrChars.Road
namespace StrChars.Road
open Jvm Sem ClassFile Op Lib Jvm.Stand Jvm.Free Jvm.Free.XT
/-- WHAT COMES BACK, in the writer's own shape -/
def QV (Z : State) (x : Addr) (N : Int32) (bs : List Int32) (h : Heap) (n0 : Nat) (v : Option Value) (h' : Heap) (L : List Loc) : Prop := v = none ∧ RoadKit.Fr n0 L ∧ RoadKit.Keep h h' [x] ∧ RoadKit.Exa Z h' x ST ∧ RoadKit.Fld Z h' x ST "coder" "B" (.int 0) ∧
  ∃ (t : Addr) (kb : ClassId), n0 ≤ t ∧ h.size ≤ t ∧ ¬ t = x ∧ RoadKit.Fld Z h' x ST "value" "[B" (.ref t) ∧ RoadKit.Arv Z h' t kb .byte N (bs.map Value.int) (.int 0)
/-- **new String(chars) AT A CALL, FOR THE WRITER**: a char[] of n known ints, each 0 to 255 -/
theorem backV {p : Program} {l : Launch} {e : Env} {R : Room} {s : State} {args : Array Value} {below : List Frame} {len W : Nat} {Z : State} {a0 : Array Value} {h : Heap} (hZ : Z.Warmed39 s.vm) (hw : ∀ d ∈ words, d.before a0 Z = true) {kI : Nat} (wi : (Jvm.Cond.instantiable ST kI).before a0 Z = true)
    {x b : Addr} {kC : ClassId} {cs bs : List Int32} {d v0 c0 : Value} {z N : Int32} {n n0 : Nat} (hx0 : n0 ≤ x) (hh0 : n0 ≤ h.size) (E : RoadKit.Exa Z h x ST) (V : RoadKit.Fld Z h x ST "value" "[B" v0) (C : RoadKit.Fld Z h x ST "coder" "B" c0) (K : RoadKit.Arv Z h b kC .char N (cs.map Value.int) d) (S : RoadKit.Sta Z h ST "COMPACT_STRINGS" "Z" (.int z)) (hz : ¬ z = 0)
    (hn : cs.length = n) (hN : N = Int32.ofNat n) (l0 : 0 < n) (l2 : n ≤ 4000) (hp : ∀ c ∈ cs, ¬ c < 0 ∧ ¬ (255 : Int32) < c) (hb : bs = cs.map (fun c => c.toInt8.toInt32)) (hfr : 4 ≤ R.frames) (hlo : W + 65 ≤ R.locals) :
    Back l R p e below s args (⟨"java/lang/String", "<init>", "([C)V"⟩ : MethodName) len W (fun P a => a = #[.ref x, .ref b] ∧ P.U.heap = h ∧ P.cells + 1 ≤ R.cells ∧ P.slots + n ≤ R.slots)
      (fun P _ v B => ∃ L, QV Z x N bs h n0 v B.U.heap L ∧ B.locs = P.locs ++ L ∧ B.cells = P.cells + 1 ∧ B.slots = P.slots + n) := by
  subst hn hN hb
  refine Back.mono (backArv hZ hw wi E V C K S hz (n32 (by omega)) l0 (by omega) (fun c hc => (hp c hc).2) hfr hlo) (fun P a hp => hp) (fun P a v B hp hq => ?_)
  obtain ⟨L, ⟨q1, q2, q3, q4, q5, q6, q7, ⟨kb, v1, v2⟩, q9⟩, hl, hc, hs⟩ := hq
  exact ⟨L, ⟨q1, fun y hy => by rw [q2 y hy]; exact hx0, q3, q5, q7, h.size, kb, hh0, Nat.le_refl _, Nat.ne_of_gt E.lt, q6, by rw [List.map_map]; exact v2⟩, hl, hc, hs⟩
end StrChars.Road
namespace StrChars
open Jvm Sem ClassFile Op Lib Jvm.Stand Jvm.Free.XT Jvm.Free.ALB Jvm.Free.JM Jvm.Free
open Jvm.Lib.Cold (StaticIs)
def hi8 (x : Int32) : Int32 := lo8 (x >>> ((8 : Int32) &&& 31))
/-- what StringUTF16.getChar makes of two bytes -/
def pairCh (u v : Int32) : Int32 := (((u &&& 255) <<< ((0 : Int32) &&& 31)) ||| ((v &&& 255) <<< ((8 : Int32) &&& 31))).toUInt32.toUInt16.toUInt32.toInt32
theorem shr0 (c : Int32) : c >>> ((0 : Int32) &&& 31) = c := by
  have e : ((0 : Int32) &&& 31) = 0 := by decide
  rw [e]
  apply Int32.toBitVec_inj.mp
  rw [Int32.toBitVec_shiftRight]
  have e1 : ((0 : Int32).toBitVec.smod 32) = 0#32 := by decide
  rw [e1, BitVec.sshiftRight_eq']
  exact BitVec.sshiftRight_zero
theorem lo8_and (x : Int32) : (lo8 x &&& 255).toBitVec.toNat = x.toBitVec.toNat % 256 := by
  have h : (lo8 x).toBitVec = (x.toBitVec.signExtend 8).signExtend 32 := by rw [lo8, Int8.toBitVec_toInt32, Int32.toBitVec_toInt8]
  rw [Int32.toBitVec_and, BitVec.toNat_and, h]
  have e : ((x.toBitVec.signExtend 8).signExtend 32).toNat % 256 = x.toBitVec.toNat % 256 := by
    rw [BitVec.toNat_signExtend]
    have hlt := x.toBitVec.isLt
    simp only [BitVec.toNat_setWidth, BitVec.toNat_signExtend]
    split <;> split <;> omega
  rw [← e]
  exact Nat.and_two_pow_sub_one_eq_mod _ 8
theorem pair_says {c : Int32} (h0 : ¬ c < 0) (h1 : ¬ 65535 < c) : pairCh (lo8 c) (hi8 c) = c := by
  rw [Int32.lt_iff_toInt_lt] at h0 h1
  have e0 : (0 : Int32).toInt = 0 := rfl
  have e1 : (65535 : Int32).toInt = 65535 := rfl
  have hc : c.toInt = c.toBitVec.toNat := by
    have := c.toBitVec.isLt
    have e : c.toInt = c.toBitVec.toInt := rfl
    rw [e] at h0 h1
    rw [e]
    rw [BitVec.toInt_eq_toNat_cond] at h0 h1 ⊢
    split at h0 <;> split <;> omega
  have hn : c.toBitVec.toNat < 65536 := by omega
  have a1 := lo8_and c
  have a2 : (hi8 c &&& 255).toBitVec.toNat = c.toBitVec.toNat / 256 := by
    rw [hi8, lo8_and]
    have e : ((8 : Int32) &&& 31) = 8 := by decide
    rw [e, Int32.toBitVec_shiftRight]
    have e2 : ((8 : Int32).toBitVec.smod 32) = 8#32 := by decide
    rw [e2, BitVec.sshiftRight_eq', BitVec.toNat_sshiftRight_of_msb_false (by rw [BitVec.msb_eq_false_iff_two_mul_lt]; omega)]
    show c.toBitVec.toNat >>> 8 % 256 = _
    rw [Nat.shiftRight_eq_div_pow]
    omega
  unfold pairCh
  apply Int32.toBitVec_inj.mp
  apply BitVec.eq_of_toNat_eq
  have f0 : ((0 : Int32) &&& 31) = 0 := by decide
  have f8 : ((8 : Int32) &&& 31) = 8 := by decide
  rw [f0, f8]
  have g : (((lo8 c &&& 255) <<< (0 : Int32)) ||| ((hi8 c &&& 255) <<< (8 : Int32))).toBitVec.toNat = c.toBitVec.toNat := by
    rw [Int32.toBitVec_or, Int32.toBitVec_shiftLeft, Int32.toBitVec_shiftLeft]
    have s0 : ((0 : Int32).toBitVec.smod 32) = 0#32 := by decide
    have s8 : ((8 : Int32).toBitVec.smod 32) = 8#32 := by decide
    rw [s0, s8, BitVec.toNat_or]
    simp only [BitVec.shiftLeft_eq', BitVec.toNat_shiftLeft, a1, a2]
    show (c.toBitVec.toNat % 256) <<< 0 % 2 ^ 32 ||| (c.toBitVec.toNat / 256) <<< 8 % 2 ^ 32 = _
    rw [Nat.shiftLeft_zero, Nat.mod_eq_of_lt (show c.toBitVec.toNat % 256 < 2 ^ 32 by omega), Nat.mod_eq_of_lt (show (c.toBitVec.toNat / 256) <<< 8 < 2 ^ 32 by rw [Nat.shiftLeft_eq]; omega), Nat.or_comm, ← Nat.shiftLeft_add_eq_or_of_lt (by omega), Nat.shiftLeft_eq]
    omega
  show BitVec.toNat (((((lo8 c &&& 255) <<< (0 : Int32)) ||| ((hi8 c &&& 255) <<< (8 : Int32))).toBitVec.setWidth 16).setWidth 32) = _
  rw [BitVec.toNat_setWidth, BitVec.toNat_setWidth, g]
  omega
end StrChars
namespace StrChars
open Jvm Sem ClassFile Op Lib Jvm.Stand Jvm.Free.XT Jvm.Free.ALB Jvm.Free.JM Jvm.Free
open Jvm.Lib.Cold (StaticIs)
theorem shr1 {n : Nat} (h : 2 * n < 2 ^ 31) : Int32.ofNat (2 * n) >>> ((1 : Int32) &&& 31) = Int32.ofNat n := by
  have e : ((1 : Int32) &&& 31) = 1 := by decide
  rw [e]
  apply Int32.toBitVec_inj.mp
  rw [Int32.toBitVec_shiftRight]
  have e1 : ((1 : Int32).toBitVec.smod 32) = 1#32 := by decide
  have hm : (BitVec.ofNat 32 (2 * n)).toNat = 2 * n := by rw [BitVec.toNat_ofNat, Nat.mod_eq_of_lt (by omega)]
  rw [e1, BitVec.sshiftRight_eq']
  apply BitVec.eq_of_toNat_eq
  show ((BitVec.ofNat 32 (2 * n)).sshiftRight 1).toNat = (BitVec.ofNat 32 n).toNat
  rw [BitVec.toNat_sshiftRight_of_msb_false (by rw [BitVec.msb_eq_false_iff_two_mul_lt, hm]; omega), hm, BitVec.toNat_ofNat, Nat.shiftRight_eq_div_pow]
  omega
/-- charAt's cast of a byte read back -/
def chr8 (u : Int32) : Int32 := (u &&& 255).toUInt32.toUInt16.toUInt32.toInt32
theorem chr8_lo8 {c : Int32} (h0 : ¬ c < 0) (h1 : ¬ 255 < c) : chr8 (lo8 c) = c := by
  have t : ∀ k : Fin 256, (Int32.ofNat k.val).toUInt32.toUInt16.toUInt32.toInt32 = Int32.ofNat k.val := by decide +kernel
  unfold chr8
  rw [lo8_mask h0 h1]
  rw [Int32.lt_iff_toInt_lt] at h0 h1
  have e0 : (0 : Int32).toInt = 0 := rfl
  have e1 : (255 : Int32).toInt = 255 := rfl
  obtain ⟨k, hk⟩ : ∃ k : Nat, c.toInt = k := ⟨c.toInt.toNat, by omega⟩
  have hx : c = Int32.ofNat k := Int32.toInt_inj.mp (by rw [hk, Int32.toInt_ofNat_small (by omega)])
  rw [hx]
  exact t ⟨k, by omega⟩
theorem narrow_ch {c : Int32} (h0 : ¬ c < 0) (h1 : ¬ 65535 < c) : narrow .char (.int c) = .int c := by
  have q : narrow .char (.int (pairCh (lo8 c) (hi8 c))) = .int (pairCh (lo8 c) (hi8 c)) := narrow_c _
  rwa [pair_says h0 h1] at q
/-- the array's cell V codes the n chars f 0 .. f (n - 1) by the coder cd, as the JDK does: coder 1 just where some char is above 255 -/
def Cod (cd : Int32) (n : Nat) (f : Nat → Int32) (V : Cell) : Prop := (cd = 0 ∧ V.slots.size = n ∧ ∀ j, j < n → V.slots[j]? = some (.int (lo8 (f j))) ∧ ¬ 255 < f j) ∨ (cd = 1 ∧ V.slots.size = 2 * n ∧ (∀ j, j < n → V.slots[2 * j]? = some (.int (lo8 (f j))) ∧ V.slots[2 * j + 1]? = some (.int (hi8 (f j)))) ∧ ∃ j, j < n ∧ 255 < f j)
theorem Cod.cd {cd : Int32} {n : Nat} {f : Nat → Int32} {V : Cell} (h : Cod cd n f V) : cd = 0 ∨ cd = 1 := h.imp (fun q => q.1) fun q => q.1
theorem Cod.len {cd : Int32} {n : Nat} {f : Nat → Int32} {V : Cell} (h : Cod cd n f V) (hs : V.slots.size < 2 ^ 31) : Int32.ofNat V.slots.size >>> (cd &&& 31) = Int32.ofNat n := by
  rcases h with ⟨rfl, h, -⟩ | ⟨rfl, h, -⟩
  · rw [shr0, h]
  · rw [h, shr1 (by omega)]
/-- **x is a String of the n chars f 0 .. f (n - 1)**, Latin-1 or UTF-16; its array at t has the cell V -/
def Txt (x t : Addr) (V : Cell) (cd : Int32) (n : Nat) (f : Nat → Int32) (U : State) : Prop := Exact "java/lang/String" x U ∧ Has x "java/lang/String" "value" "[B" (.ref t) U ∧ Has x "java/lang/String" "coder" "B" (.int cd) U ∧ XT.Arr .byte t V U ∧ Cod cd n f V ∧ ∀ j, j < n → ¬ f j < 0 ∧ ¬ 65535 < f j
theorem Txt.mv {x t : Addr} {V : Cell} {cd : Int32} {n : Nat} {f : Nat → Int32} {U U' : State} (h : Txt x t V cd n f U) (hal : U.vm.Alike U'.vm) (hh : U'.heap = U.heap) : Txt x t V cd n f U' := ⟨h.1.mv hal hh, h.2.1.mv hal hh, h.2.2.1.mv hal hh, h.2.2.2.1.mv hal hh, h.2.2.2.2⟩
namespace Cdr
def yN : MethodName := ⟨"java/lang/String", "coder", "()B"⟩
abbrev yB : ByteArray := jdk_42_method_152_code
theorem d0 : decode yB 0 = .ok (.getstatic 38, 3) := by decide +kernel
theorem d3 : decode yB 3 = .ok (.ifCond (.eq) 10, 3) := by decide +kernel
theorem d6 : decode yB 6 = .ok (.aload_n 0, 1) := by decide +kernel
theorem d7 : decode yB 7 = .ok (.getfield 15, 3) := by decide +kernel
theorem d10 : decode yB 10 = .ok (.goto 4, 3) := by decide +kernel
theorem d14 : decode yB 14 = .ok (.ireturn, 1) := by decide +kernel
def site : List Cond := [.fieldLink "java/lang/String" 38 "java/lang/String" "COMPACT_STRINGS" "Z", .fieldLink "java/lang/String" 15 "java/lang/String" "coder" "B"]
def tab : Cond := tabOf yN yB 1 (some .byte) site
def P (x : Addr) (cd z : Int32) (args : Array Value) (s : State) : Prop := args = #[.ref x] ∧ Has x "java/lang/String" "coder" "B" (.int cd) s ∧ (cd = 0 ∨ cd = 1) ∧ StaticIs s "java/lang/String" "COMPACT_STRINGS" "Z" (.int z) ∧ ¬ z = 0
def E (cd : Int32) (r : Option Value) (s u : State) : Prop := XT.PureE (some (.int cd)) r s u
theorem law (l : Launch) (x : Addr) (cd z : Int32) : Law l yN 1 0 0 0 yB 1 (some .byte) site (P x cd z) (E cd) [] 0 0 := by
  refine Law.of_walk (plainFor_of_name (by decide +kernel)) (by decide +kernel) (by decide +kernel) (by decide) (fun _ _ h => by rw [h.1]; rfl) (fun _ U U' hal hh h => ⟨h.1, h.2.1.mv hal hh, h.2.2.1, h.2.2.2.1.there hal hh, h.2.2.2.2⟩) (fun r U U' V V' h1 hal h2 h => XT.PureE.mv r U U' V V' h1 hal h2 h) ?_
  intro p e s m args below meth c s₁ X0 hexec hbytes hml hret hlk hnm hown hh0 W hP
  obtain ⟨rfl, hx, hc, s1, hz⟩ := hP
  have c1 : Steps p.tables e below (s₁.setTop (entryFrame m #[.ref x] 1)) (s₁.setTop (mkF m 0 #[.val (.ref x)] [])) := entry rfl
  obtain ⟨T2, X2, q2, st2⟩ := X0.sget hexec hown (wk W (.fieldLink "java/lang/String" 38 "java/lang/String" "COMPACT_STRINGS" "Z")) s1 (fun _ _ h => by rw [hh0]; exact h) (g := (mkF m 0 #[.val (.ref x)] [])) rfl (hb hbytes d0)
  have hh2 := q2.trans hh0
  have c3 : Steps p.tables e below (s₁.setTop (entryFrame m #[.ref x] 1)) (T2.setTop (mkF m 7 #[.val (.ref x)] [.ref x])) := (c1.trans (st2 _ (Steps.refl _))).trans (by
    refine XS.ifNo X2.here hexec rfl (hb hbytes d3) rfl (i0_eq_f hz) ?_
    refine XS.aloadN X2.here hexec rfl (hb hbytes d6) rfl rfl ?_
    exact Steps.refl _)
  obtain ⟨T4, X4, q4, st4⟩ := X2.hget hexec hown (wk W (.fieldLink "java/lang/String" 15 "java/lang/String" "coder" "B")) (hx.mv X2.warmed.alike hh2) (g := (mkF m 7 #[.val (.ref x)] [.ref x])) rfl (rest := []) rfl (hb hbytes d7)
  have c5 : Steps p.tables e below (s₁.setTop (entryFrame m #[.ref x] 1)) (T4.setTop (mkF m 14 #[.val (.ref x)] [.int cd])) := (c3.trans (st4 _ (Steps.refl _))).trans (by
    refine XS.goto X4.here hexec rfl (pc0 := 10) rfl (hb hbytes d10) (by decide) rfl ?_
    exact Steps.refl _)
  exact ⟨T4, some (.int cd), _, _, _, X4, rfl, rfl, rfl, (fun h => by cases h), ⟨rfl, q4.trans hh2⟩, fun fs hl => c5.trans (X4.ireturnOut hexec hret (by rcases hc with rfl | rfl <;> rfl) (Or.inr (Or.inr (Or.inl rfl))) (hb hbytes d14) hl)⟩
end Cdr
namespace Len
def yN : MethodName := ⟨"java/lang/String", "length", "()I"⟩
abbrev yB : ByteArray := jdk_42_method_54_code
theorem d0 : decode yB 0 = .ok (.aload_n 0, 1) := by decide +kernel
theorem d1 : decode yB 1 = .ok (.getfield 9, 3) := by decide +kernel
theorem d4 : decode yB 4 = .ok (.arraylength, 1) := by decide +kernel
theorem d5 : decode yB 5 = .ok (.aload_n 0, 1) := by decide +kernel
theorem d6 : decode yB 6 = .ok (.invokevirtual 335, 3) := by decide +kernel
theorem d9 : decode yB 9 = .ok (.ishr, 1) := by decide +kernel
theorem d10 : decode yB 10 = .ok (.ireturn, 1) := by decide +kernel
def site : List Cond := [.fieldLink "java/lang/String" 9 "java/lang/String" "value" "[B", Cdr.tab] ++ virtW "java/lang/String" 335 "java/lang/String" Cdr.yN Cdr.yN
def tab : Cond := tabOf yN yB 1 (some .int) site
def P (x t : Addr) (V : Cell) (cd : Int32) (n : Nat) (f : Nat → Int32) (z : Int32) (args : Array Value) (s : State) : Prop := args = #[.ref x] ∧ Txt x t V cd n f s ∧ StaticIs s "java/lang/String" "COMPACT_STRINGS" "Z" (.int z) ∧ ¬ z = 0
def E (n : Nat) (r : Option Value) (s u : State) : Prop := XT.PureE (some (.int (Int32.ofNat n))) r s u
/-- length() of a String of n chars, in either coding -/
theorem law (l : Launch) (x t : Addr) (V : Cell) (cd : Int32) (n : Nat) (f : Nat → Int32) (z : Int32) : Law l yN 1 0 1 13 yB 1 (some .int) site (P x t V cd n f z) (E n) [] 0 0 := by
  refine Law.of_walk (plainFor_of_name (by decide +kernel)) (by decide +kernel) (by decide +kernel) (by decide) (fun _ _ h => by rw [h.1]; rfl) (fun _ U U' hal hh h => ⟨h.1, h.2.1.mv hal hh, h.2.2.1.there hal hh, h.2.2.2⟩) (fun r U U' V V' h1 hal h2 h => XT.PureE.mv r U U' V V' h1 hal h2 h) ?_
  intro p e s m args below meth c s₁ X0 hexec hbytes hml hret hlk hnm hown hh0 W hP
  obtain ⟨rfl, hx, s1, hz⟩ := hP
  have v31 := hx.2.2.2.1.2.2.2
  have c1 : Steps p.tables e below (s₁.setTop (entryFrame m #[.ref x] 1)) (s₁.setTop (mkF m 1 #[.val (.ref x)] [.ref x])) := Steps.trans (entry rfl) (by
    show Steps p.tables e below (s₁.setTop (mkF m 0 #[.val (.ref x)] [])) _
    refine XS.aloadN X0.here hexec rfl (hb hbytes d0) rfl rfl ?_
    exact Steps.refl _)
  obtain ⟨T2, X2, q2, st2⟩ := X0.hget hexec hown (wk W (.fieldLink "java/lang/String" 9 "java/lang/String" "value" "[B")) (hx.mv X0.warmed.alike hh0).2.1 (g := (mkF m 1 #[.val (.ref x)] [.ref x])) rfl (rest := []) rfl (hb hbytes d1)
  have hh2 := q2.trans hh0
  have hx2 := hx.mv X2.warmed.alike hh2
  have c3 : Steps p.tables e below (s₁.setTop (entryFrame m #[.ref x] 1)) (T2.setTop (mkF m 6 #[.val (.ref x)] [.ref x, .int (Int32.ofNat V.slots.size)])) := (c1.trans (st2 _ (Steps.refl _))).trans (by
    refine X2.alen hexec hx2.2.2.2.1 rfl rfl (hb hbytes d4) ?_
    refine XS.aloadN X2.here hexec rfl (hb hbytes d5) rfl rfl ?_
    exact Steps.refl _)
  obtain ⟨v4, T4, X4, E4, g4⟩ := X2.callV hexec (Cdr.law l x cd z) hown (wks W (virtW "java/lang/String" 335 "java/lang/String" Cdr.yN Cdr.yN)) rfl (by decide) (wk W Cdr.tab) (W := 1) (Nat.le_of_ble_eq_true rfl) (Nat.le_of_ble_eq_true rfl) (Nat.le_refl _) (Nat.le_refl _) (hx2.1.fc X2.warmed.alike) hx2.1.is (g := (mkF m 6 #[.val (.ref x)] [.ref x, .int (Int32.ofNat V.slots.size)])) rfl (by rw [hml]; rfl) c3 (argsL := []) (rest := [.int (Int32.ofNat V.slots.size)]) rfl rfl (by show 2 * 0 + (1 + 0) ≤ _; decide) (hb hbytes d6) (⟨rfl, hx2.2.2.1, hx.2.2.2.2.1.cd, s1.there X2.warmed.alike hh2, hz⟩)
  obtain ⟨rfl, q4⟩ := E4
  have c5 : Steps p.tables e below (s₁.setTop (entryFrame m #[.ref x] 1)) (T4.setTop (mkF m 10 #[.val (.ref x)] [.int (Int32.ofNat V.slots.size >>> (cd &&& 31))])) := Steps.trans g4 (by
    refine ishr X4.here hexec rfl (hb hbytes d9) rfl ?_
    exact Steps.refl _)
  rw [hx.2.2.2.2.1.len v31] at c5
  exact ⟨T4, some (.int (Int32.ofNat n)), _, _, _, X4, rfl, rfl, rfl, (fun h => by cases h), ⟨rfl, q4.trans hh2⟩, fun fs hl => c5.trans (X4.ireturnOut hexec hret rfl (Or.inl rfl) (hb hbytes d10) hl)⟩
theorem pays {l : Launch} {R : Room} {p : Program} {e : Env} {below : List Frame} {s : State} {sargs : Array Value} {len W : Nat} (x t : Addr) (V : Cell) (cd : Int32) (n : Nat) (f : Nat → Int32) (z : Int32) (htab : tab.before sargs s = true) (hfr : 2 ≤ R.frames) (hlo : W + 25 ≤ R.locals) :
    Back l R p e below s sargs yN len W (fun A₁ a₁ => A₁.cells + 0 ≤ R.cells ∧ A₁.slots + 0 ≤ R.slots ∧ P x t V cd n f z a₁ A₁.U) (fun A₁ _ v₁ B₁ => E n v₁ A₁.U B₁.U ∧ B₁.locs = A₁.locs ++ [] ∧ B₁.cells = A₁.cells + 0 ∧ B₁.slots = A₁.slots + 0) :=
  (law l x t V cd n f z).pays htab hfr (by omega)
end Len
namespace IsL
def yN : MethodName := ⟨"java/lang/String", "isLatin1", "()Z"⟩
abbrev yB : ByteArray := jdk_42_method_154_code
theorem d0 : decode yB 0 = .ok (.getstatic 38, 3) := by decide +kernel
theorem d3 : decode yB 3 = .ok (.ifCond (.eq) 14, 3) := by decide +kernel
theorem d6 : decode yB 6 = .ok (.aload_n 0, 1) := by decide +kernel
theorem d7 : decode yB 7 = .ok (.getfield 15, 3) := by decide +kernel
theorem d10 : decode yB 10 = .ok (.ifCond (.ne) 7, 3) := by decide +kernel
theorem d13 : decode yB 13 = .ok (.iconst 1, 1) := by decide +kernel
theorem d14 : decode yB 14 = .ok (.goto 4, 3) := by decide +kernel
theorem d17 : decode yB 17 = .ok (.iconst 0, 1) := by decide +kernel
theorem d18 : decode yB 18 = .ok (.ireturn, 1) := by decide +kernel
def site : List Cond := [.fieldLink "java/lang/String" 38 "java/lang/String" "COMPACT_STRINGS" "Z", .fieldLink "java/lang/String" 15 "java/lang/String" "coder" "B"]
def tab : Cond := tabOf yN yB 1 (some .boolean) site
def P (x : Addr) (cd z : Int32) (args : Array Value) (s : State) : Prop := args = #[.ref x] ∧ Has x "java/lang/String" "coder" "B" (.int cd) s ∧ (cd = 0 ∨ cd = 1) ∧ StaticIs s "java/lang/String" "COMPACT_STRINGS" "Z" (.int z) ∧ ¬ z = 0
def E (cd : Int32) (r : Option Value) (s u : State) : Prop := XT.PureE (some (.int (1 - cd))) r s u
theorem law (l : Launch) (x : Addr) (cd z : Int32) : Law l yN 1 0 0 0 yB 1 (some .boolean) site (P x cd z) (E cd) [] 0 0 := by
  refine Law.of_walk (plainFor_of_name (by decide +kernel)) (by decide +kernel) (by decide +kernel) (by decide) (fun _ _ h => by rw [h.1]; rfl) (fun _ U U' hal hh h => ⟨h.1, h.2.1.mv hal hh, h.2.2.1, h.2.2.2.1.there hal hh, h.2.2.2.2⟩) (fun r U U' V V' h1 hal h2 h => XT.PureE.mv r U U' V V' h1 hal h2 h) ?_
  intro p e s m args below meth c s₁ X0 hexec hbytes hml hret hlk hnm hown hh0 W hP
  obtain ⟨rfl, hx, hc, s1, hz⟩ := hP
  have c1 : Steps p.tables e below (s₁.setTop (entryFrame m #[.ref x] 1)) (s₁.setTop (mkF m 0 #[.val (.ref x)] [])) := entry rfl
  obtain ⟨T2, X2, q2, st2⟩ := X0.sget hexec hown (wk W (.fieldLink "java/lang/String" 38 "java/lang/String" "COMPACT_STRINGS" "Z")) s1 (fun _ _ h => by rw [hh0]; exact h) (g := (mkF m 0 #[.val (.ref x)] [])) rfl (hb hbytes d0)
  have hh2 := q2.trans hh0
  have c3 : Steps p.tables e below (s₁.setTop (entryFrame m #[.ref x] 1)) (T2.setTop (mkF m 7 #[.val (.ref x)] [.ref x])) := (c1.trans (st2 _ (Steps.refl _))).trans (by
    refine XS.ifNo X2.here hexec rfl (hb hbytes d3) rfl (i0_eq_f hz) ?_
    refine XS.aloadN X2.here hexec rfl (hb hbytes d6) rfl rfl ?_
    exact Steps.refl _)
  obtain ⟨T4, X4, q4, st4⟩ := X2.hget hexec hown (wk W (.fieldLink "java/lang/String" 15 "java/lang/String" "coder" "B")) (hx.mv X2.warmed.alike hh2) (g := (mkF m 7 #[.val (.ref x)] [.ref x])) rfl (rest := []) rfl (hb hbytes d7)
  have c5 : Steps p.tables e below (s₁.setTop (entryFrame m #[.ref x] 1)) (T4.setTop (mkF m 10 #[.val (.ref x)] [.int cd])) := c3.trans (st4 _ (Steps.refl _))
  have c6 : Steps p.tables e below (s₁.setTop (entryFrame m #[.ref x] 1)) (T4.setTop (mkF m 18 #[.val (.ref x)] [.int (1 - cd)])) := by
    rcases hc with rfl | rfl
    · exact c5.trans (by
        refine XS.ifNo X4.here hexec rfl (hb hbytes d10) rfl (i0_ne_f rfl) ?_
        refine iconstV X4.here hexec rfl 1 (hb hbytes d13) (by decide) ?_
        refine XS.goto X4.here hexec rfl (pc0 := 14) rfl (hb hbytes d14) (by decide) rfl ?_
        exact Steps.refl _)
    · exact c5.trans (by
        refine XS.ifYes X4.here hexec rfl (pc0 := 10) rfl (hb hbytes d10) rfl (i0_ne_t (by decide)) (by decide) rfl ?_
        refine iconstV X4.here hexec rfl 0 (hb hbytes d17) (by decide) ?_
        exact Steps.refl _)
  exact ⟨T4, some (.int (1 - cd)), _, _, _, X4, rfl, rfl, rfl, (fun h => by cases h), ⟨rfl, q4.trans hh2⟩, fun fs hl => c6.trans (X4.ireturnOut hexec hret (by rcases hc with rfl | rfl <;> rfl) (Or.inr (Or.inl rfl)) (hb hbytes d18) hl)⟩
end IsL
namespace LChA
def yN : MethodName := ⟨"java/lang/StringLatin1", "charAt", "([BI)C"⟩
abbrev yB : ByteArray := jdk_43_method_2_code
theorem d0 : decode yB 0 = .ok (.iload_n 1, 1) := by decide +kernel
theorem d1 : decode yB 1 = .ok (.aload_n 0, 1) := by decide +kernel
theorem d2 : decode yB 2 = .ok (.arraylength, 1) := by decide +kernel
theorem d3 : decode yB 3 = .ok (.invokestatic 9, 3) := by decide +kernel
theorem d6 : decode yB 6 = .ok (.aload_n 0, 1) := by decide +kernel
theorem d7 : decode yB 7 = .ok (.iload_n 1, 1) := by decide +kernel
theorem d8 : decode yB 8 = .ok (.baload, 1) := by decide +kernel
theorem d9 : decode yB 9 = .ok (.sipush 255, 3) := by decide +kernel
theorem d12 : decode yB 12 = .ok (.iand, 1) := by decide +kernel
theorem d13 : decode yB 13 = .ok (.i2c, 1) := by decide +kernel
theorem d14 : decode yB 14 = .ok (.ireturn, 1) := by decide +kernel
def site : List Cond := [JO.Str_checkIndex.tab] ++ staticW "java/lang/StringLatin1" 9 JO.Str_checkIndex.yN
def tab : Cond := tabOf yN yB 2 (some .char) site
def P (t : Addr) (V : Cell) (i : Nat) (u : Int32) (fm : Value) (args : Array Value) (s : State) : Prop := args = #[.ref t, .int (Int32.ofNat i)] ∧ XT.Arr .byte t V s ∧ V.slots[i]? = some (.int u) ∧ (StaticIs s "jdk/internal/util/Preconditions" "SIOOBE_FORMATTER" "Ljava/util/function/BiFunction;" fm ∧ fm.isRef = true)
def E (u : Int32) (r : Option Value) (s w : State) : Prop := XT.PureE (some (.int (chr8 u))) r s w
theorem law (l : Launch) (t : Addr) (V : Cell) (i : Nat) (u : Int32) (fm : Value) : Law l yN 2 2 2 27 yB 2 (some .char) site (P t V i u fm) (E u) [] 0 0 := by
  refine Law.of_walk (plainFor_of_name (by decide +kernel)) (by decide +kernel) (by decide +kernel) (by decide) (fun _ _ h => by rw [h.1]; rfl) (fun _ U U' hal hh h => ⟨h.1, h.2.1.mv hal hh, h.2.2.1, h.2.2.2.1.there hal hh, h.2.2.2.2⟩) (fun r U U' V V' h1 hal h2 h => XT.PureE.mv r U U' V V' h1 hal h2 h) ?_
  intro p e s m args below meth c s₁ X0 hexec hbytes hml hret hlk hnm hown hh0 W hP
  obtain ⟨rfl, hV, hu, s1, rf⟩ := hP
  have v31 := hV.2.2.2
  have hi : i < V.slots.size := (Array.getElem?_eq_some_iff.mp hu).1
  have c1 : Steps p.tables e below (s₁.setTop (entryFrame m #[.ref t, .int (Int32.ofNat i)] 2)) (s₁.setTop (mkF m 0 #[.val (.ref t), .val (.int (Int32.ofNat i))] [])) := entry rfl
  have c2 : Steps p.tables e below (s₁.setTop (entryFrame m #[.ref t, .int (Int32.ofNat i)] 2)) (s₁.setTop (mkF m 3 #[.val (.ref t), .val (.int (Int32.ofNat i))] [.int (Int32.ofNat V.slots.size), .int (Int32.ofNat i)])) := c1.trans (by
    refine XS.iloadN X0.here hexec rfl (hb hbytes d0) rfl ?_
    refine XS.aloadN X0.here hexec rfl (hb hbytes d1) rfl rfl ?_
    refine X0.alen hexec (hV.mv X0.warmed.alike hh0) rfl rfl (hb hbytes d2) ?_
    exact Steps.refl _)
  obtain ⟨v3, T3, X3, E3, g3⟩ := X0.callS hexec (JO.Str_checkIndex.law l (Int32.ofNat i) (Int32.ofNat V.slots.size) fm) hown (wks W (staticW "java/lang/StringLatin1" 9 JO.Str_checkIndex.yN)) (wk W JO.Str_checkIndex.tab) (W := 0) (Nat.le_of_ble_eq_true rfl) (Nat.le_of_ble_eq_true rfl) (Nat.le_refl _) (Nat.le_refl _) (g := (mkF m 3 #[.val (.ref t), .val (.int (Int32.ofNat i))] [.int (Int32.ofNat V.slots.size), .int (Int32.ofNat i)])) rfl (by rw [hml]; rfl) c2 (argsL := [.int (Int32.ofNat i), .int (Int32.ofNat V.slots.size)]) (rest := []) rfl rfl (by show 2 * 0 + 0 ≤ _; decide) (hb hbytes d3) (⟨rfl, rf, s1.there X0.warmed.alike hh0, Int32.ofNat_not_neg (by omega), lt32 v31 hi⟩)
  obtain ⟨rfl, q3⟩ := E3
  have hh3 := q3.trans hh0
  have c4 : Steps p.tables e below (s₁.setTop (entryFrame m #[.ref t, .int (Int32.ofNat i)] 2)) (T3.setTop (mkF m 14 #[.val (.ref t), .val (.int (Int32.ofNat i))] [.int (chr8 u)])) := Steps.trans g3 (by
    refine XS.aloadN X3.here hexec rfl (hb hbytes d6) rfl rfl ?_
    refine XS.iloadN X3.here hexec rfl (hb hbytes d7) rfl ?_
    refine X3.aget hexec (hV.mv X3.warmed.alike hh3) rfl hu rfl rfl (hb hbytes d8) ?_
    refine sipushV X3.here hexec rfl 255 (hb hbytes d9) (by decide) ?_
    refine XS.iand X3.here hexec rfl (hb hbytes d12) rfl ?_
    refine i2c X3.here hexec rfl (hb hbytes d13) rfl ?_
    exact Steps.refl _)
  exact ⟨T3, some (.int (chr8 u)), _, _, _, X3, rfl, rfl, rfl, (fun h => by cases h), ⟨rfl, hh3⟩, fun fs hl => c4.trans (X3.ireturnOut hexec hret (narrow_c _) (Or.inr (Or.inr (Or.inr (Or.inl rfl)))) (hb hbytes d14) hl)⟩
end LChA
end StrChars
namespace StrChars.Road
open Jvm Sem ClassFile Op Lib Jvm.Stand Jvm.Free Jvm.Free.XT
open Jvm.Lib.Cold (StaticIs)
theorem consq {a : Array Value} {s : State} {c : Jvm.Cond} {L : List Jvm.Cond} (h0 : c.before a s = true) (h : ∀ w ∈ L, w.before a s = true) : ∀ w ∈ c :: L, w.before a s = true := fun w hw => (List.mem_cons.mp hw).elim (fun e => e ▸ h0) (h w)
/-- the words of String.length(), either coding -/
abbrev wordsLen : List Jvm.Cond := [.code Len.yN Len.yB 1 (some .int), .initialized ST, .fieldLink ST 9 ST "value" "[B", .fieldLink ST 38 ST "COMPACT_STRINGS" "Z", .fieldLink ST 15 ST "coder" "B", .code Cdr.yN Cdr.yB 1 (some .byte), .methodLink ST 335 Cdr.yN, .declares Cdr.yN, .selects ST Cdr.yN Cdr.yN, .instanceMethod Cdr.yN]
theorem tabLen_of {a : Array Value} {s : State} (h : ∀ w ∈ wordsLen, w.before a s = true) : Len.tab.before a s = true := by
  have hc : Cdr.tab.before a s = true := unparts (wk h (.code Cdr.yN Cdr.yB 1 (some .byte))) (wks h (.initialized Cdr.yN.cls :: Cdr.site))
  have q := consq hc h
  exact unparts (wk q (.code Len.yN Len.yB 1 (some .int))) (wks q (.initialized Len.yN.cls :: Len.site))
theorem movedLen {Z s : State} {a0 args : Array Value} (hZ : Z.Warmed39 s.vm) (hw : ∀ d ∈ wordsLen, d.before a0 Z = true) : ∀ d ∈ wordsLen, d.before args s = true := fun d hd => by
  have q := hw d hd
  have t : ∀ d ∈ wordsLen, d = .arrayClass .byte ∨ (d.onTables && d.keepsFace) = true := by decide +kernel
  rcases t d hd with rfl | t
  · exact RoadKit.mvA hZ q
  · exact RoadKit.mv hZ q t
/-- the bytes of the chars cs, low before high -/
def wideBytes : List Int32 → List Value
  | [] => []
  | c :: cs => .int (lo8 c) :: .int (hi8 c) :: wideBytes cs
theorem wide_lo (d : Value) : ∀ (cs : List Int32) (j : Nat), j < cs.length → (wideBytes cs).getD (2 * j) d = .int (lo8 (cs.getD j 0))
  | [], j, h => absurd h (Nat.not_lt_zero j)
  | c :: cs, 0, _ => rfl
  | c :: cs, j + 1, h => by
    have q := wide_lo d cs j (by simpa using h)
    rw [show 2 * (j + 1) = 2 * j + 1 + 1 from by omega]
    simpa [wideBytes] using q
theorem wide_hi (d : Value) : ∀ (cs : List Int32) (j : Nat), j < cs.length → (wideBytes cs).getD (2 * j + 1) d = .int (hi8 (cs.getD j 0))
  | [], j, h => absurd h (Nat.not_lt_zero j)
  | c :: cs, 0, _ => rfl
  | c :: cs, j + 1, h => by
    have q := wide_hi d cs j (by simpa using h)
    rw [show 2 * (j + 1) + 1 = 2 * j + 1 + 1 + 1 from by omega]
    simpa [wideBytes] using q
theorem low_at (d : Value) (cs : List Int32) (j : Nat) (h : j < cs.length) : (cs.map fun c => Value.int (lo8 c)).getD j d = .int (lo8 (cs.getD j 0)) := by
  simp [List.getD_eq_getElem?_getD, h]
/-- an array of N2 bytes vs codes the chars cs by the coder cd -/
def CodA (cs : List Int32) (cd N2 : Int32) (vs : List Value) : Prop := (cd = 0 ∧ N2 = Int32.ofNat cs.length ∧ vs = (cs.map fun c => Value.int (lo8 c)) ∧ ∀ c ∈ cs, ¬ 255 < c) ∨ (cd = 1 ∧ N2 = Int32.ofNat (2 * cs.length) ∧ vs = wideBytes cs ∧ ∃ c ∈ cs, 255 < c)
theorem CodA.cod {cs : List Int32} {cd N2 : Int32} {vs : List Value} {V : Cell} (h : CodA cs cd N2 vs) (hn : 2 * cs.length < 2 ^ 31) (hs : V.slots.size = N2.toNatClampNeg) (hv : RoadKit.Has V vs (.int 0)) : Cod cd cs.length (fun j => cs.getD j 0) V := by
  rcases h with ⟨rfl, rfl, rfl, h⟩ | ⟨rfl, rfl, rfl, c, hc, hw⟩
  · rw [n32 (by omega)] at hs
    exact Or.inl ⟨rfl, hs, fun j hj => ⟨by rw [hv j (by omega), low_at _ _ _ hj], by
      have e : cs.getD j 0 = cs[j] := by simp [List.getD_eq_getElem?_getD, hj]
      show ¬ 255 < cs.getD j 0
      rw [e]; exact h _ (List.getElem_mem _)⟩⟩
  · rw [n32 (by omega)] at hs
    obtain ⟨j, hj, rfl⟩ := List.getElem_of_mem hc
    exact Or.inr ⟨rfl, hs, fun j hj => ⟨by rw [hv _ (by omega), wide_lo _ _ _ hj], by rw [hv _ (by omega), wide_hi _ _ _ hj]⟩, j, hj, by
      have e : cs.getD j 0 = cs[j] := by simp [List.getD_eq_getElem?_getD, hj]
      show 255 < cs.getD j 0
      rw [e]; exact hw⟩
/-- an object of exactly java/lang/String, its two fields found: as the laws ask it -/
theorem strObj {Z U : State} {a0 : Array Value} {kI : Nat} (wi : (Jvm.Cond.instantiable ST kI).before a0 Z = true) (al : Z.vm.Alike U.vm) {x : Addr} {v0 c0 : Value} (E : RoadKit.Exa Z U.heap x ST) (V : RoadKit.Fld Z U.heap x ST "value" "[B" v0) (C : RoadKit.Fld Z U.heap x ST "coder" "B" c0) :
    ∃ (D : Cell) (fV fC : Field), Blank ST x D U ∧ Found ST "value" "[B" fV U ∧ Found ST "coder" "B" fC U ∧ D.slots[fV.slot]? = some v0 ∧ D.slots[fC.slot]? = some c0 ∧ RoadKit.slotOf Z ST "value" "[B" = fV.slot ∧ RoadKit.slotOf Z ST "coder" "B" = fC.slot := by
  obtain ⟨D, cfV, kV, iV, fV, hD, gV, stV, knV, obV, asV, slV⟩ := V
  obtain ⟨D', cfC, kC, iC, fC, hD', gC, stC, -, -, asC, slC⟩ := C
  cases hD.symm.trans hD'
  obtain ⟨D2, kD, e1, e2, e3, e4, e5⟩ := E
  cases hD.symm.trans e1
  obtain ⟨c2, k2, i1, i2, i3, -⟩ := Cond.instantiable_spec wi
  cases e2.symm.trans i1
  cases e3.symm.trans i2
  obtain ⟨kU, u1, u2⟩ := al.2.2 _ _ e3
  exact ⟨D, fV, fC, ⟨hD, ⟨knV, fun q hq => by rw [hq] at obV; cases obV⟩, by rw [al.findClass]; exact e2, kU, u1, by rw [u2]; exact i3, by rw [u2]; exact e5 i3⟩, ⟨SBG.found_only al ⟨cfV, kV, iV, gV⟩, stV⟩, ⟨SBG.found_only al ⟨cfC, kC, iC, gC⟩, stC⟩, slV, slC, by simp [RoadKit.slotOf, gV], by simp [RoadKit.slotOf, gC]⟩
theorem sta_is {Z U : State} (al : Z.vm.Alike U.vm) {C n d : String} {v : Value} (S : RoadKit.Sta Z U.heap C n d v) : StaticIs U C n d v := by
  obtain ⟨cfS, iS, kS, fS, st, cS, t1, t2, t3, t4, t5, t6, t7⟩ := S
  exact StaticIs.there (s := { Z with heap := U.heap }) ⟨cfS, iS, kS, fS, st, cS, t1, t2, t3, t4, t5, (fun q => by rw [q] at t6; cases t6), t7⟩ al rfl
/-- **length() OF SUCH A STRING** -/
theorem lenW {p : Program} {l : Launch} {e : Env} {R : Room} {s : State} {args : Array Value} {below : List Frame} {len W : Nat} {Z : State} {a0 : Array Value} {h : Heap} (hZ : Z.Warmed39 s.vm) (hw : ∀ d ∈ wordsLen, d.before a0 Z = true) {kI : Nat} (wi : (Jvm.Cond.instantiable ST kI).before a0 Z = true)
    {x t : Addr} {kb : ClassId} {cs : List Int32} {cd N2 z : Int32} {vs : List Value} (E : RoadKit.Exa Z h x ST) (V : RoadKit.Fld Z h x ST "value" "[B" (.ref t)) (C : RoadKit.Fld Z h x ST "coder" "B" (.int cd)) (K : RoadKit.Arv Z h t kb .byte N2 vs (.int 0)) (hc : CodA cs cd N2 vs) (hb : ∀ c ∈ cs, ¬ c < 0 ∧ ¬ (65535 : Int32) < c)
    (S : RoadKit.Sta Z h ST "COMPACT_STRINGS" "Z" (.int z)) (hz : ¬ z = 0) (l2 : cs.length ≤ 4000) (hfr : 2 ≤ R.frames) (hlo : W + 25 ≤ R.locals) :
    Back l R p e below s args (⟨"java/lang/String", "length", "()I"⟩ : MethodName) len W (fun P a => a = #[.ref x] ∧ P.U.heap = h ∧ P.cells + 0 ≤ R.cells ∧ P.slots + 0 ≤ R.slots)
      (fun P _ v B => ∃ L, (v = some (.int (Int32.ofNat cs.length)) ∧ L = [] ∧ B.U.heap = h) ∧ B.locs = P.locs ++ L ∧ B.cells = P.cells + 0 ∧ B.slots = P.slots + 0) := by
  obtain ⟨A, K1, K2, K3, K4, K5, K6⟩ := K
  have hcod := hc.cod (by omega) K3 K5
  intro m meth c P g ig mk a X hg hsize hdg hW hn hp'
  obtain ⟨rfl, rfl, r1, r2⟩ := hp'
  have al : Z.vm.Alike P.U.vm := hZ.alike.trans X.warmed.alike
  obtain ⟨D, fV, fC, hB, F1, F2, g1, g2, -, -⟩ := strObj wi al E V C
  have hx : Txt x t A cd cs.length (fun j => cs.getD j 0) P.U := ⟨⟨_, hB.2.2.1, D, hB.1, rfl, by cases q : D.vm <;> first | rfl | exact absurd q (hB.2.1.2 _)⟩, Has.of hB F1 g1, Has.of hB F2 g2, ⟨K1.1, State.isArrayOf_alike al K1.2.1, K1.2.2, by rcases hcod with ⟨-, q, -⟩ | ⟨-, q, -⟩ <;> omega⟩, hcod, fun j hj => by
    have e : cs.getD j 0 = cs[j] := by simp [List.getD_eq_getElem?_getD, hj]
    show ¬ cs.getD j 0 < 0 ∧ ¬ 65535 < cs.getD j 0
    rw [e]; exact hb _ (List.getElem_mem _)⟩
  obtain ⟨v, B, X', ⟨⟨hv, hh⟩, hl, hk, hs⟩, st⟩ := Len.pays x t A cd cs.length (fun j => cs.getD j 0) z (tabLen_of (movedLen hZ hw)) hfr hlo m meth c P g ig mk _ X hg hsize hdg hW hn ⟨r1, r2, rfl, hx, sta_is al S, hz⟩
  exact ⟨v, B, X', ⟨[], ⟨hv, rfl, hh⟩, hl, hk, hs⟩, st⟩
end StrChars.Road
namespace StrChars.Road
open Jvm Sem ClassFile Op Lib Jvm.Stand Jvm.Free Jvm.Free.XT
open Jvm.Lib.Cold (StaticIs)
/-- the road's facts of a String, as the laws ask it -/
theorem txt_of {Z U : State} {a0 : Array Value} {kI : Nat} (wi : (Jvm.Cond.instantiable ST kI).before a0 Z = true) (al : Z.vm.Alike U.vm) {x t : Addr} {kb : ClassId} {cs : List Int32} {cd N2 : Int32} {vs : List Value} (E : RoadKit.Exa Z U.heap x ST) (V : RoadKit.Fld Z U.heap x ST "value" "[B" (.ref t)) (C : RoadKit.Fld Z U.heap x ST "coder" "B" (.int cd)) (K : RoadKit.Arv Z U.heap t kb .byte N2 vs (.int 0)) (hc : CodA cs cd N2 vs) (hb : ∀ c ∈ cs, ¬ c < 0 ∧ ¬ (65535 : Int32) < c) (l2 : cs.length ≤ 4000) :
    ∃ A, Txt x t A cd cs.length (fun j => cs.getD j 0) U := by
  obtain ⟨A, K1, K2, K3, K4, K5, K6⟩ := K
  have hcod := hc.cod (by omega) K3 K5
  obtain ⟨D, fV, fC, hB, F1, F2, g1, g2, -, -⟩ := strObj wi al E V C
  exact ⟨A, ⟨_, hB.2.2.1, D, hB.1, rfl, by cases q : D.vm <;> first | rfl | exact absurd q (hB.2.1.2 _)⟩, Has.of hB F1 g1, Has.of hB F2 g2, ⟨K1.1, State.isArrayOf_alike al K1.2.1, K1.2.2, by rcases hcod with ⟨-, q, -⟩ | ⟨-, q, -⟩ <;> omega⟩, hcod, fun j hj => by
    have e : cs.getD j 0 = cs[j] := by simp [List.getD_eq_getElem?_getD, hj]
    show ¬ cs.getD j 0 < 0 ∧ ¬ 65535 < cs.getD j 0
    rw [e]; exact hb _ (List.getElem_mem _)⟩
end StrChars.Road
namespace StrChars
open Jvm Sem ClassFile Op Lib Jvm.Stand Jvm.Free.XT Jvm.Free.ALB Jvm.Free.JM Jvm.Free
open Jvm.Lib.Cold (StaticIs)
namespace ChN
def yN : MethodName := ⟨"java/lang/String", "charAt", "(I)C"⟩
abbrev yB : ByteArray := jdk_42_method_56_code
theorem d0 : decode yB 0 = .ok (.aload_n 0, 1) := by decide +kernel
theorem d1 : decode yB 1 = .ok (.invokevirtual 492, 3) := by decide +kernel
theorem d4 : decode yB 4 = .ok (.ifCond (.eq) 12, 3) := by decide +kernel
theorem d7 : decode yB 7 = .ok (.aload_n 0, 1) := by decide +kernel
theorem d8 : decode yB 8 = .ok (.getfield 9, 3) := by decide +kernel
theorem d11 : decode yB 11 = .ok (.iload_n 1, 1) := by decide +kernel
theorem d12 : decode yB 12 = .ok (.invokestatic 495, 3) := by decide +kernel
theorem d15 : decode yB 15 = .ok (.ireturn, 1) := by decide +kernel
def site : List Cond := [.fieldLink "java/lang/String" 9 "java/lang/String" "value" "[B", IsL.tab, LChA.tab] ++ virtW "java/lang/String" 492 "java/lang/String" IsL.yN IsL.yN ++ staticW "java/lang/String" 495 LChA.yN
def tab : Cond := tabOf yN yB 2 (some .char) site
def P (x t : Addr) (V : Cell) (n : Nat) (f : Nat → Int32) (z : Int32) (fm : Value) (i : Nat) (args : Array Value) (s : State) : Prop := args = #[.ref x, .int (Int32.ofNat i)] ∧ Txt x t V 0 n f s ∧ i < n ∧ StaticIs s "java/lang/String" "COMPACT_STRINGS" "Z" (.int z) ∧ ¬ z = 0 ∧ StaticIs s "jdk/internal/util/Preconditions" "SIOOBE_FORMATTER" "Ljava/util/function/BiFunction;" fm ∧ fm.isRef = true
def E (f : Nat → Int32) (i : Nat) (r : Option Value) (s u : State) : Prop := XT.PureE (some (.int (f i))) r s u
/-- charAt(i) of a Latin-1 String of n chars, i < n: f i -/
theorem law (l : Launch) (x t : Addr) (V : Cell) (n : Nat) (f : Nat → Int32) (z : Int32) (fm : Value) (i : Nat) : Law l yN 2 1 3 40 yB 2 (some .char) site (P x t V n f z fm i) (E f i) [] 0 0 := by
  refine Law.of_walk (plainFor_of_name (by decide +kernel)) (by decide +kernel) (by decide +kernel) (by decide) (fun _ _ h => by rw [h.1]; rfl) (fun _ U U' hal hh h => ⟨h.1, h.2.1.mv hal hh, h.2.2.1, h.2.2.2.1.there hal hh, h.2.2.2.2.1, h.2.2.2.2.2.1.there hal hh, h.2.2.2.2.2.2⟩) (fun r U U' V V' h1 hal h2 h => XT.PureE.mv r U U' V V' h1 hal h2 h) ?_
  intro p e s m args below meth c s₁ X0 hexec hbytes hml hret hlk hnm hown hh0 W hP
  obtain ⟨rfl, hx, hi, s1, hz, s3, rf⟩ := hP
  have v31 := hx.2.2.2.1.2.2.2
  have hr := hx.2.2.2.2.2 i hi
  have hx0 := hx.mv X0.warmed.alike hh0
  have c1 : Steps p.tables e below (s₁.setTop (entryFrame m #[.ref x, .int (Int32.ofNat i)] 2)) (s₁.setTop (mkF m 1 #[.val (.ref x), .val (.int (Int32.ofNat i))] [.ref x])) := Steps.trans (entry rfl) (by
    show Steps p.tables e below (s₁.setTop (mkF m 0 #[.val (.ref x), .val (.int (Int32.ofNat i))] [])) _
    refine XS.aloadN X0.here hexec rfl (hb hbytes d0) rfl rfl ?_
    exact Steps.refl _)
  obtain ⟨v2, T2, X2, E2, g2⟩ := X0.callV hexec (IsL.law l x 0 z) hown (wks W (virtW "java/lang/String" 492 "java/lang/String" IsL.yN IsL.yN)) rfl (by decide) (wk W IsL.tab) (W := 0) (Nat.le_of_ble_eq_true rfl) (Nat.le_of_ble_eq_true rfl) (Nat.le_refl _) (Nat.le_refl _) (hx0.1.fc X0.warmed.alike) hx0.1.is (g := (mkF m 1 #[.val (.ref x), .val (.int (Int32.ofNat i))] [.ref x])) rfl (by rw [hml]; rfl) c1 (argsL := []) (rest := []) rfl rfl (by show 2 * 0 + 0 ≤ _; decide) (hb hbytes d1) (⟨rfl, hx0.2.2.1, hx.2.2.2.2.1.cd, s1.there X0.warmed.alike hh0, hz⟩)
  obtain ⟨rfl, q2⟩ := E2
  have hh2 := q2.trans hh0
  have hx2 := hx.mv X2.warmed.alike hh2
  obtain ⟨-, k1, k2⟩ | ⟨k0, -⟩ := hx.2.2.2.2.1
  · have c3 : Steps p.tables e below (s₁.setTop (entryFrame m #[.ref x, .int (Int32.ofNat i)] 2)) (T2.setTop (mkF m 8 #[.val (.ref x), .val (.int (Int32.ofNat i))] [.ref x])) := Steps.trans g2 (by
      refine XS.ifNo X2.here hexec rfl (hb hbytes d4) rfl (i0_eq_f (by decide)) ?_
      refine XS.aloadN X2.here hexec rfl (hb hbytes d7) rfl rfl ?_
      exact Steps.refl _)
    obtain ⟨T4, X4, q4, st4⟩ := X2.hget hexec hown (wk W (.fieldLink "java/lang/String" 9 "java/lang/String" "value" "[B")) hx2.2.1 (g := (mkF m 8 #[.val (.ref x), .val (.int (Int32.ofNat i))] [.ref x])) rfl (rest := []) rfl (hb hbytes d8)
    have hh4 := q4.trans hh2
    have c5 : Steps p.tables e below (s₁.setTop (entryFrame m #[.ref x, .int (Int32.ofNat i)] 2)) (T4.setTop (mkF m 12 #[.val (.ref x), .val (.int (Int32.ofNat i))] [.int (Int32.ofNat i), .ref t])) := (c3.trans (st4 _ (Steps.refl _))).trans (by
      refine XS.iloadN X4.here hexec rfl (hb hbytes d11) rfl ?_
      exact Steps.refl _)
    obtain ⟨v6, T6, X6, E6, g6⟩ := X4.callS hexec (LChA.law l t V i (lo8 (f i)) fm) hown (wks W (staticW "java/lang/String" 495 LChA.yN)) (wk W LChA.tab) (W := 0) (Nat.le_of_ble_eq_true rfl) (Nat.le_of_ble_eq_true rfl) (Nat.le_refl _) (Nat.le_refl _) (g := (mkF m 12 #[.val (.ref x), .val (.int (Int32.ofNat i))] [.int (Int32.ofNat i), .ref t])) rfl (by rw [hml]; rfl) c5 (argsL := [.ref t, .int (Int32.ofNat i)]) (rest := []) rfl rfl (by show 2 * 0 + 0 ≤ _; decide) (hb hbytes d12) (⟨rfl, hx.2.2.2.1.mv X4.warmed.alike hh4, (k2 i hi).1, s3.there X4.warmed.alike hh4, rf⟩)
    obtain ⟨rfl, q6⟩ := E6
    rw [chr8_lo8 hr.1 (k2 i hi).2] at g6
    exact ⟨T6, some (.int (f i)), _, _, _, X6, rfl, rfl, rfl, (fun h => by cases h), ⟨rfl, q6.trans hh4⟩, fun fs hl => Steps.trans g6 (X6.ireturnOut hexec hret (narrow_ch hr.1 hr.2) (Or.inr (Or.inr (Or.inr (Or.inl rfl)))) (hb hbytes d15) hl)⟩
  · exact absurd k0 (by decide)
theorem pays {l : Launch} {R : Room} {p : Program} {e : Env} {below : List Frame} {s : State} {sargs : Array Value} {len W : Nat} (x t : Addr) (V : Cell) (n : Nat) (f : Nat → Int32) (z : Int32) (fm : Value) (i : Nat) (htab : tab.before sargs s = true) (hfr : 4 ≤ R.frames) (hlo : W + 53 ≤ R.locals) :
    Back l R p e below s sargs yN len W (fun A₁ a₁ => A₁.cells + 0 ≤ R.cells ∧ A₁.slots + 0 ≤ R.slots ∧ P x t V n f z fm i a₁ A₁.U) (fun A₁ _ v₁ B₁ => E f i v₁ A₁.U B₁.U ∧ B₁.locs = A₁.locs ++ [] ∧ B₁.cells = A₁.cells + 0 ∧ B₁.slots = A₁.slots + 0) :=
  (law l x t V n f z fm i).pays htab hfr (by omega)
end ChN
end StrChars
namespace StrChars.Road
open Jvm Sem ClassFile Op Lib Jvm.Stand Jvm.Free Jvm.Free.XT
open Jvm.Lib.Cold (StaticIs)
/-- the words of String.charAt(int), the Latin-1 road alone -/
abbrev wordsChN : List Jvm.Cond := [.code ChN.yN ChN.yB 2 (some .char), .initialized ST, .fieldLink ST 9 ST "value" "[B", .fieldLink ST 38 ST "COMPACT_STRINGS" "Z", .fieldLink ST 15 ST "coder" "B", .code IsL.yN IsL.yB 1 (some .boolean), .methodLink ST 492 IsL.yN, .declares IsL.yN, .selects ST IsL.yN IsL.yN, .instanceMethod IsL.yN,
  .methodLink ST 495 LChA.yN, .static LChA.yN, .code LChA.yN LChA.yB 2 (some .char), .initialized "java/lang/StringLatin1", .methodLink "java/lang/StringLatin1" 9 JO.Str_checkIndex.yN, .static JO.Str_checkIndex.yN, .code JO.Str_checkIndex.yN JO.Str_checkIndex.yB 2 none,
  .fieldLink ST 1053 "jdk/internal/util/Preconditions" "SIOOBE_FORMATTER" "Ljava/util/function/BiFunction;", .methodLink ST 1059 JC.PreCheck.yN, .static JC.PreCheck.yN, .code JC.PreCheck.yN JC.PreCheck.yB 3 (some .int), .initialized "jdk/internal/util/Preconditions"]
theorem tabChN_of {a : Array Value} {s : State} (h : ∀ w ∈ wordsChN, w.before a s = true) : ChN.tab.before a s = true := by
  have hp : JC.PreCheck.tab.before a s = true := unparts (wk h (.code JC.PreCheck.yN JC.PreCheck.yB 3 (some .int))) (wks h (.initialized JC.PreCheck.yN.cls :: JC.PreCheck.site))
  have qk := consq hp h
  have hk : JO.Str_checkIndex.tab.before a s = true := unparts (wk qk (.code JO.Str_checkIndex.yN JO.Str_checkIndex.yB 2 none)) (wks qk (.initialized JO.Str_checkIndex.yN.cls :: JO.Str_checkIndex.site))
  have ql := consq hk h
  have hl : LChA.tab.before a s = true := unparts (wk ql (.code LChA.yN LChA.yB 2 (some .char))) (wks ql (.initialized LChA.yN.cls :: LChA.site))
  have hi : IsL.tab.before a s = true := unparts (wk h (.code IsL.yN IsL.yB 1 (some .boolean))) (wks h (.initialized IsL.yN.cls :: IsL.site))
  have q := consq hi (consq hl h)
  exact unparts (wk q (.code ChN.yN ChN.yB 2 (some .char))) (wks q (.initialized ChN.yN.cls :: ChN.site))
theorem movedChN {Z s : State} {a0 args : Array Value} (hZ : Z.Warmed39 s.vm) (hw : ∀ d ∈ wordsChN, d.before a0 Z = true) : ∀ d ∈ wordsChN, d.before args s = true := fun d hd => by
  have t : ∀ d ∈ wordsChN, (d.onTables && d.keepsFace) = true := by decide +kernel
  exact RoadKit.mv hZ (hw d hd) (t d hd)
/-- **charAt(i) OF A LATIN-1 STRING**, i < n: the char -/
theorem chN {p : Program} {l : Launch} {e : Env} {R : Room} {s : State} {args : Array Value} {below : List Frame} {len W : Nat} {Z : State} {a0 : Array Value} {h : Heap} (hZ : Z.Warmed39 s.vm) (hw : ∀ d ∈ wordsChN, d.before a0 Z = true) {kI : Nat} (wi : (Jvm.Cond.instantiable ST kI).before a0 Z = true)
    {x t : Addr} {kb : ClassId} {cs : List Int32} {N2 z : Int32} {vs : List Value} {fm : Value} {i : Nat} {j : Int32} (E : RoadKit.Exa Z h x ST) (V : RoadKit.Fld Z h x ST "value" "[B" (.ref t)) (C : RoadKit.Fld Z h x ST "coder" "B" (.int 0)) (K : RoadKit.Arv Z h t kb .byte N2 vs (.int 0)) (hc : CodA cs 0 N2 vs) (hb : ∀ c ∈ cs, ¬ c < 0 ∧ ¬ (65535 : Int32) < c)
    (S : RoadKit.Sta Z h ST "COMPACT_STRINGS" "Z" (.int z)) (hz : ¬ z = 0) (F : RoadKit.Sta Z h "jdk/internal/util/Preconditions" "SIOOBE_FORMATTER" "Ljava/util/function/BiFunction;" fm) (rf : fm.isRef = true) (l2 : cs.length ≤ 4000) (hi : i < cs.length) (hj : j = Int32.ofNat i) (hfr : 4 ≤ R.frames) (hlo : W + 53 ≤ R.locals) :
    Back l R p e below s args (⟨"java/lang/String", "charAt", "(I)C"⟩ : MethodName) len W (fun P a => a = #[.ref x, .int j] ∧ P.U.heap = h ∧ P.cells + 0 ≤ R.cells ∧ P.slots + 0 ≤ R.slots)
      (fun P _ v B => ∃ L, (v = some (.int (cs.getD i 0)) ∧ L = [] ∧ B.U.heap = h) ∧ B.locs = P.locs ++ L ∧ B.cells = P.cells + 0 ∧ B.slots = P.slots + 0) := by
  subst hj
  intro m meth c P g ig mk a X hg hsize hdg hW hn hp'
  obtain ⟨rfl, rfl, r1, r2⟩ := hp'
  have al : Z.vm.Alike P.U.vm := hZ.alike.trans X.warmed.alike
  obtain ⟨A, hx⟩ := txt_of wi al E V C K hc hb l2
  obtain ⟨v, B, X', ⟨⟨hv, hh⟩, hl, hk, hs⟩, st⟩ := ChN.pays x t A cs.length (fun j => cs.getD j 0) z fm i (tabChN_of (movedChN hZ hw)) hfr hlo m meth c P g ig mk _ X hg hsize hdg hW hn ⟨r1, r2, rfl, hx, hi, sta_is al S, hz, sta_is al F, rf⟩
  exact ⟨v, B, X', ⟨[], ⟨hv, rfl, hh⟩, hl, hk, hs⟩, st⟩
/-- what backV says of its String, as the contracts of this text ask it: cs's low bytes, coder 0 -/
theorem codOf {cs : List Int32} {n : Nat} (hn : cs.length = n) (hb : ∀ c ∈ cs, ¬ 255 < c) : CodA cs 0 (Int32.ofNat n) ((cs.map lo8).map Value.int) := Or.inl ⟨rfl, by rw [hn], by simp [List.map_map, Function.comp_def], hb⟩
end StrChars.Road
end Jvm.Pilot.@@N@@
namespace Jvm.Pilot.@@N@@
open Jvm Jvm.ClassFile Sem Op Lib Jvm.Free Jvm.Stand Jvm.LawKit Jvm.RoadKit Bundle Jvm.Pilot.@@N@@.Jvm.D
section OwnStr
variable {p : Program} {l : Launch} {e : Env} {R : Room} {s : State} {m : MethodId} {args : Array Value} {below : List Frame} {meth : Method} {c : Code} {Z : State} {EL : List (String × Nat)} {n0 : Nat} {own : String} {code : ByteArray} {ml : Nat} {bw : Bool} {vm : Vm} {T : State} {h h' : Heap} {locs : List Loc} {cells slots : Nat} {a0 : Array Value} {x t : Addr} {cs : List Int32} {len W : Nat} {ws : List Addr}
/-- the String at x, its bytes at t, spells cs -/
def Str (Z : State) (h : Heap) (x t : Addr) (cs : List Int32) : Prop := Exa Z h x "java/lang/String" ∧ (∃ (cd N : Int32) (vs : List Value) (kb : ClassId), Fld Z h x "java/lang/String" "value" "[B" (.ref t) ∧ Fld Z h x "java/lang/String" "coder" "B" (.int cd) ∧ Arv Z h t kb .byte N vs (.int 0) ∧ StrChars.Road.CodA cs cd N vs) ∧ (∀ c ∈ cs, ¬ c < 0 ∧ ¬ (65535 : Int32) < c) ∧ cs.length ≤ 4000
theorem Str.ext (E : Ext h h') (F : Str Z h x t cs) : Str Z h' x t cs := by
  obtain ⟨a1, ⟨cd, N, vs, kb, b1, b2, b3, b4⟩, r⟩ := F; exact ⟨a1.ext E, ⟨cd, N, vs, kb, b1.ext E, b2.ext E, b3.ext E, b4⟩, r⟩
theorem Str.keep (F : Str Z h x t cs) (K : Keep h h' ws) (q : x ∉ ws) (q' : t ∉ ws) : Str Z h' x t cs := by
  obtain ⟨a1, ⟨cd, N, vs, kb, b1, b2, b3, b4⟩, r⟩ := F; exact ⟨a1.keep K, ⟨cd, N, vs, kb, b1.keep K q, b2.keep K q, b3.keep K q', b4⟩, r⟩
theorem strLit {b : Addr} {kb : ClassId} {z : Int32} {vs : List Value} (E : Exa Z h x "java/lang/String") (C : Fld Z h x "java/lang/String" "coder" "B" (.int 0)) (V : Fld Z h x "java/lang/String" "value" "[B" (.ref b)) (K : Arv Z h b kb .byte z vs (.int 0)) (q : StrChars.Road.CodA cs 0 z vs) (r : ∀ c ∈ cs, ¬ c < 0 ∧ ¬ (65535 : Int32) < c) (r2 : cs.length ≤ 4000) : Str Z h x b cs := ⟨E, ⟨0, z, vs, kb, V, C, K, q⟩, r, r2⟩
theorem Str.open (F : Str Z h x t cs) (lat : ∀ c ∈ cs, ¬ (255 : Int32) < c) : ∃ kb, Fld Z h x "java/lang/String" "value" "[B" (.ref t) ∧ Fld Z h x "java/lang/String" "coder" "B" (.int 0) ∧ Arv Z h t kb .byte (Int32.ofNat cs.length) (cs.map fun c => Value.int (StrChars.lo8 c)) (.int 0) := by
  obtain ⟨a1, ⟨cd, N, vs, kb, b1, b2, b3, b4⟩, r1, r2⟩ := F
  rcases b4 with ⟨rfl, rfl, rfl, -⟩ | ⟨-, -, -, c, hc, q⟩
  · exact ⟨kb, b1, b2, b3⟩
  · exact absurd q (lat c hc)
theorem Str.exa (F : Str Z h x t cs) : Exa Z h x "java/lang/String" := F.1
theorem Str.lt (F : Str Z h x t cs) : x < h.size := F.1.lt
theorem Str.lt' (F : Str Z h x t cs) : t < h.size := by obtain ⟨_, ⟨_, _, _, _, -, -, b3, -⟩, -⟩ := F; exact b3.lt
theorem up8 {c : Int32} (q : ¬ (255 : Int32) < c) : ¬ (65535 : Int32) < c := fun r => q (by rw [Int32.lt_iff_toInt_lt] at r ⊢; have e1 : (65535 : Int32).toInt = 65535 := rfl; have e2 : (255 : Int32).toInt = 255 := rfl; omega)
theorem payLen (A : WS p l e R s m args below meth c Z EL n0 own code ml bw vm T h locs cells slots) (hw : ∀ d ∈ tables_1, d.before a0 Z = true) {kI : Nat} (wi : (Jvm.Cond.instantiable "java/lang/String" kI).before a0 Z = true) (F : Str Z h x t cs) {zc : Int32} (O : Sta Z Z.heap "java/lang/String" "COMPACT_STRINGS" "Z" (.int zc)) (hz : ¬ zc = 0) (hfr : 2 ≤ R.frames) (hlo : W + 25 ≤ R.locals) : BkN l R p e below (s.setVm vm) args (⟨"java/lang/String", "length", "()I"⟩ : MethodName) len W #[.ref x] h n0 [] (fun v h' => v = some (.int (Int32.ofNat cs.length)) ∧ h' = h) 0 0 := by
  obtain ⟨a1, ⟨cd, N, vs, kb, b1, b2, b3, b4⟩, r1, r2⟩ := F
  exact Back.mono (StrChars.Road.lenW A.hZ (fun d hd => hw d ((by decide +kernel : ∀ d ∈ StrChars.Road.wordsLen, d ∈ tables_1) d hd)) wi a1 b1 b2 b3 b4 r1 (O.ext A.old.2) hz r2 hfr hlo) (fun _ _ q => q) (fun B a v B' hp hq => by obtain ⟨L, ⟨q1, rfl, q3⟩, r⟩ := hq; exact ⟨[], ⟨Fr.nil n0, by rw [q3]; exact Keep.refl _ _, q1, q3⟩, r⟩)
theorem payCh (A : WS p l e R s m args below meth c Z EL n0 own code ml bw vm T h locs cells slots) (hw : ∀ d ∈ tables_1, d.before a0 Z = true) {kI : Nat} (wi : (Jvm.Cond.instantiable "java/lang/String" kI).before a0 Z = true) (F : Str Z h x t cs) (lat : ∀ c ∈ cs, ¬ (255 : Int32) < c) {zc : Int32} (O : Sta Z Z.heap "java/lang/String" "COMPACT_STRINGS" "Z" (.int zc)) (hz : ¬ zc = 0) {fm : Value} (O4 : Sta Z Z.heap "jdk/internal/util/Preconditions" "SIOOBE_FORMATTER" "Ljava/util/function/BiFunction;" fm) (rf : fm.isRef = true) (i : Nat) (hi : i < cs.length) {j : Int32} (hj : j = Int32.ofNat i) (hfr : 4 ≤ R.frames) (hlo : W + 53 ≤ R.locals) : BkN l R p e below (s.setVm vm) args (⟨"java/lang/String", "charAt", "(I)C"⟩ : MethodName) len W #[.ref x, .int j] h n0 [] (fun v h' => v = some (.int (cs.getD i 0)) ∧ h' = h) 0 0 := by
  obtain ⟨a1, ⟨cd, N, vs, kb, b1, b2, b3, b4⟩, r1, r2⟩ := F
  obtain rfl : cd = 0 := by
    rcases b4 with ⟨q, -⟩ | ⟨-, -, -, c, hc, q⟩
    · exact q
    · exact absurd q (lat c hc)
  exact Back.mono (StrChars.Road.chN A.hZ (fun d hd => hw d ((by decide +kernel : ∀ d ∈ StrChars.Road.wordsChN, d ∈ tables_1) d hd)) wi a1 b1 b2 b3 b4 r1 (O.ext A.old.2) hz (O4.ext A.old.2) rf r2 hi hj hfr hlo) (fun _ _ q => q) (fun B a v B' hp hq => by obtain ⟨L, ⟨q1, rfl, q3⟩, r⟩ := hq; exact ⟨[], ⟨Fr.nil n0, by rw [q3]; exact Keep.refl _ _, q1, q3⟩, r⟩)
theorem payNew (A : WS p l e R s m args below meth c Z EL n0 own code ml bw vm T h locs cells slots) (hw : ∀ d ∈ tables_1, d.before a0 Z = true) {kI : Nat} (wi : (Jvm.Cond.instantiable "java/lang/String" kI).before a0 Z = true) {b : Addr} {kC : ClassId} {d v0 c0 : Value} {N : Int32} (n : Nat) (gx : n0 ≤ x) (E : Exa Z h x "java/lang/String") (V : Fld Z h x "java/lang/String" "value" "[B" v0) (C : Fld Z h x "java/lang/String" "coder" "B" c0) (K : Arv Z h b kC .char N (cs.map Value.int) d) {zc : Int32} (O : Sta Z Z.heap "java/lang/String" "COMPACT_STRINGS" "Z" (.int zc)) (hz : ¬ zc = 0) (hn : cs.length = n) (hN : N = Int32.ofNat n) (l0 : 0 < n) (l2 : n ≤ 4000) (hp : ∀ c ∈ cs, ¬ c < 0 ∧ ¬ (255 : Int32) < c) (hfr : 4 ≤ R.frames) (hlo : W + 65 ≤ R.locals) :
    BkN l R p e below (s.setVm vm) args (⟨"java/lang/String", "<init>", "([C)V"⟩ : MethodName) len W #[.ref x, .ref b] h n0 [x] (fun v h' => v = none ∧ ∃ t : Addr, n0 ≤ t ∧ h.size ≤ t ∧ ¬ t = x ∧ Str Z h' x t cs) 1 n := by
  refine Back.mono (StrChars.Road.backV A.hZ (fun d hd => hw d ((by decide +kernel : ∀ d ∈ StrChars.Road.words, d ∈ tables_1) d hd)) wi gx A.sz E V C K (O.ext A.old.2) hz hn hN l0 l2 hp rfl hfr hlo) (fun _ _ q => q) (fun B a v B' hp' hq => ?_)
  obtain ⟨L, ⟨rfl, q2, q3, q4, q5, t, kb, q6, q7, q8, q9, q10⟩, r⟩ := hq
  exact ⟨L, ⟨q2, q3, rfl, t, q6, q7, q8, q4, ⟨0, N, _, kb, q9, q5, q10, by rw [hN]; exact StrChars.Road.codOf hn fun c hc => (hp c hc).2⟩, fun c hc => ⟨(hp c hc).1, up8 (hp c hc).2⟩, by omega⟩, r⟩
end OwnStr
end Jvm.Pilot.@@N@@
namespace Jvm.Pilot.@@N@@
open Jvm Jvm.ClassFile Sem Op Lib Jvm.Free Jvm.Stand Jvm.LawKit Jvm.RoadKit Bundle Jvm.Pilot.@@N@@.Jvm.D
theorem ln {P : Int32 → Prop} : ∀ c ∈ ([] : List Int32), P c := fun _ q => nomatch q
theorem lc {P : Int32 → Prop} {a : Int32} {L : List Int32} (q : P a) (r : ∀ c ∈ L, P c) : ∀ c ∈ a :: L, P c := fun c z => (List.mem_cons.mp z).elim (fun u => u ▸ q) (r c)
theorem lat2 {L : List Int32} (q : ∀ c ∈ L, ¬ c < 0 ∧ ¬ (255 : Int32) < c) : ∀ c ∈ L, ¬ (255 : Int32) < c := fun c hc => (q c hc).2
theorem chr_id {z : Int32} (q : 0 ≤ z.toInt ∧ z.toInt ≤ 65535) : z.toUInt32.toUInt16.toUInt32.toInt32 = z := by
  have a := c_i2c z; exact Int32.toInt_inj.mp (by omega)
theorem nar_id {z : Int32} (q : 0 ≤ z.toInt ∧ z.toInt ≤ 65535) : nar .char z = z := chr_id q
theorem chr_rng (z : Int32) : 0 ≤ (z.toUInt32.toUInt16.toUInt32.toInt32).toInt ∧ (z.toUInt32.toUInt16.toUInt32.toInt32).toInt ≤ 65535 := by
  have a := c_i2c z; omega
theorem lat_of {z : Int32} (q : 0 ≤ z.toInt ∧ z.toInt ≤ 255) : ¬ z < 0 ∧ ¬ (255 : Int32) < z := by
  rw [Int32.lt_iff_toInt_lt, Int32.lt_iff_toInt_lt]; have e1 : (255 : Int32).toInt = 255 := rfl; have e2 : (0 : Int32).toInt = 0 := rfl; omega
theorem of_lat {z : Int32} (q : ¬ z < 0 ∧ ¬ (255 : Int32) < z) : 0 ≤ z.toInt ∧ z.toInt ≤ 255 := by
  rw [Int32.lt_iff_toInt_lt, Int32.lt_iff_toInt_lt] at q; have e1 : (255 : Int32).toInt = 255 := rfl; have e2 : (0 : Int32).toInt = 0 := rfl; omega
theorem lt_i {x y : Int32} : x < y ↔ x.toInt < y.toInt := Int32.lt_iff_toInt_lt
theorem and255 (x : Int32) : 0 ≤ (x &&& 255).toInt ∧ (x &&& 255).toInt ≤ 255 := c_and x 255 (by decide)
abbrev ELs : List (String × Nat) := []
theorem strA {Z : State} {a0 : Array Value} (hw : ∀ d ∈ tables_1, d.before a0 Z = true) : ∀ a ∈ Bundle.stringAtoms, a.before a0 Z = true := fun d hd => hw d ((by decide +kernel : ∀ d ∈ Bundle.stringAtoms, d ∈ tables_1) d hd)
theorem pos_div {x : Int64} {y : Int64} {d : Int} (h : 0 ≤ x.toInt) (hy : y.toInt = d) (h1 : y ≠ -1) : (x / y).toInt = x.toInt / d := (c_ldiv x y d hy h1).1 h
theorem pos_rem {x : Int64} {y : Int64} {d : Int} (h : 0 ≤ x.toInt) (hy : y.toInt = d) : (x % y).toInt = x.toInt % d := by rw [← lrem_mod]; exact (c_lrem x y d hy).1 h
theorem digE {v p : Int64} {c : Int32} {P : Int} (h : 0 ≤ v.toInt) (hp : p.toInt = P) (h0 : 0 < P) (h1 : p ≠ -1) (hc : 48 + ((v / p) % 10).toInt32 = c) : c.toInt = 48 + v.toInt / P % 10 := by
  have a := pos_div h hp h1
  have a0 : 0 ≤ (v / p).toInt := by rw [a]; exact Int.ediv_nonneg h (by omega)
  have b := pos_rem (y := 10) (d := 10) a0 rfl
  have d := c_l2i ((v / p) % 10); have e := rng32 ((v / p) % 10).toInt32
  have f := c_iadd 48 ((v / p) % 10).toInt32; have g := rng32 (48 + ((v / p) % 10).toInt32); have l : (48 : Int32).toInt = 48 := rfl
  rw [hc] at f g; rw [a] at b
  generalize v.toInt / P = q at *
  omega
theorem chE {c : Int32} {d : Int} (h : c.toInt = 48 + d % 10) : 0 ≤ c.toInt ∧ c.toInt ≤ 255 := by omega
theorem ge48 {c : Int32} {d : Int} (h : c.toInt = 48 + d % 10) : ¬ c < 48 := by rw [lt_i]; have l : (48 : Int32).toInt = 48 := rfl; omega
theorem le57 {c : Int32} {d : Int} (h : c.toInt = 48 + d % 10) : ¬ (57 : Int32) < c := by rw [lt_i]; have l : (57 : Int32).toInt = 57 := rfl; omega
theorem ne46 {c : Int32} {d : Int} (h : c.toInt = 48 + d % 10) : ¬ c = 46 := fun e => by subst e; have l : (46 : Int32).toInt = 46 := rfl; omega
theorem accE {m s' : Int64} {c : Int32} {A d : Int} (hs : m + (c - 48).toInt64 = s') (ha : m.toInt = 10 * A) (hA : 0 ≤ A ∧ A < 100000000000000) (hc : c.toInt = 48 + d % 10) : s'.toInt = 10 * A + d % 10 := by
  have a := c_isub c 48; have b := rng32 (c - 48); have l : (48 : Int32).toInt = 48 := rfl; have e := c_i2l (c - 48); have f := c_ladd m (c - 48).toInt64; have g := rng64 (m + (c - 48).toInt64)
  rw [hs] at f g; omega
theorem mulE {s : Int64} {A : Int} (ha : s.toInt = A) (hA : 0 ≤ A ∧ A < 100000000000000) : (s * 10).toInt = 10 * A := by
  have a := c_lmul s 10; have b := rng64 (s * 10); have l : (10 : Int64).toInt = 10 := rfl; rw [l, ha] at a; omega
theorem chR {c : Int32} {d : Int} (h : c.toInt = 48 + d % 10) : 0 ≤ c.toInt ∧ c.toInt ≤ 65535 := by omega
theorem nneg {r : Int64} {V M : Int} (hM : M ≠ 0) (h : r.toInt = V % M) : ¬ lcmpW r 0 < 0 := by
  rw [lw_lt, Int64.lt_iff_toInt_lt, h]; have l : (0 : Int64).toInt = 0 := rfl; have q := Int.emod_nonneg V hM; omega
theorem stK1 (W : Int) : 10 * (W / 10 % 1) + W % 10 = W % 10 := by omega
theorem dvK1 (V : Int) : V / 10 = V / 1 / 10 := by omega
theorem bdK0 (X : Int) : 0 ≤ X % 1 ∧ X % 1 < 100000000000000 := by omega
theorem stK2 (W : Int) : 10 * (W / 10 % 10) + W % 10 = W % 100 := by omega
theorem dvK2 (V : Int) : V / 100 = V / 10 / 10 := by omega
theorem bdK1 (X : Int) : 0 ≤ X % 10 ∧ X % 10 < 100000000000000 := by omega
theorem stK3 (W : Int) : 10 * (W / 10 % 100) + W % 10 = W % 1000 := by omega
theorem dvK3 (V : Int) : V / 1000 = V / 100 / 10 := by omega
theorem bdK2 (X : Int) : 0 ≤ X % 100 ∧ X % 100 < 100000000000000 := by omega
theorem stK4 (W : Int) : 10 * (W / 10 % 1000) + W % 10 = W % 10000 := by omega
theorem dvK4 (V : Int) : V / 10000 = V / 1000 / 10 := by omega
theorem bdK3 (X : Int) : 0 ≤ X % 1000 ∧ X % 1000 < 100000000000000 := by omega
theorem stK5 (W : Int) : 10 * (W / 10 % 10000) + W % 10 = W % 100000 := by omega
theorem dvK5 (V : Int) : V / 100000 = V / 10000 / 10 := by omega
theorem bdK4 (X : Int) : 0 ≤ X % 10000 ∧ X % 10000 < 100000000000000 := by omega
theorem stK6 (W : Int) : 10 * (W / 10 % 100000) + W % 10 = W % 1000000 := by omega
theorem dvK6 (V : Int) : V / 1000000 = V / 100000 / 10 := by omega
theorem bdK5 (X : Int) : 0 ≤ X % 100000 ∧ X % 100000 < 100000000000000 := by omega
theorem stK7 (W : Int) : 10 * (W / 10 % 1000000) + W % 10 = W % 10000000 := by omega
theorem dvK7 (V : Int) : V / 10000000 = V / 1000000 / 10 := by omega
theorem bdK6 (X : Int) : 0 ≤ X % 1000000 ∧ X % 1000000 < 100000000000000 := by omega
theorem stK8 (W : Int) : 10 * (W / 10 % 10000000) + W % 10 = W % 100000000 := by omega
theorem dvK8 (V : Int) : V / 100000000 = V / 10000000 / 10 := by omega
theorem bdK7 (X : Int) : 0 ≤ X % 10000000 ∧ X % 10000000 < 100000000000000 := by omega
theorem stK9 (W : Int) : 10 * (W / 10 % 100000000) + W % 10 = W % 1000000000 := by omega
theorem dvK9 (V : Int) : V / 1000000000 = V / 100000000 / 10 := by omega
theorem bdK8 (X : Int) : 0 ≤ X % 100000000 ∧ X % 100000000 < 100000000000000 := by omega
theorem stK10 (W : Int) : 10 * (W / 10 % 1000000000) + W % 10 = W % 10000000000 := by omega
theorem dvK10 (V : Int) : V / 10000000000 = V / 1000000000 / 10 := by omega
theorem bdK9 (X : Int) : 0 ≤ X % 1000000000 ∧ X % 1000000000 < 100000000000000 := by omega
theorem stK11 (W : Int) : 10 * (W / 10 % 10000000000) + W % 10 = W % 100000000000 := by omega
theorem dvK11 (V : Int) : V / 100000000000 = V / 10000000000 / 10 := by omega
theorem bdK10 (X : Int) : 0 ≤ X % 10000000000 ∧ X % 10000000000 < 100000000000000 := by omega
theorem stK12 (W : Int) : 10 * (W / 10 % 100000000000) + W % 10 = W % 1000000000000 := by omega
theorem dvK12 (V : Int) : V / 1000000000000 = V / 100000000000 / 10 := by omega
theorem bdK11 (X : Int) : 0 ≤ X % 100000000000 ∧ X % 100000000000 < 100000000000000 := by omega
theorem stK13 (W : Int) : 10 * (W / 10 % 1000000000000) + W % 10 = W % 10000000000000 := by omega
theorem dvK13 (V : Int) : V / 10000000000000 = V / 1000000000000 / 10 := by omega
theorem bdK12 (X : Int) : 0 ≤ X % 1000000000000 ∧ X % 1000000000000 < 100000000000000 := by omega
theorem stK14 (W : Int) : 10 * (W / 10 % 10000000000000) + W % 10 = W % 100000000000000 := by omega
theorem dvK14 (V : Int) : V / 100000000000000 = V / 10000000000000 / 10 := by omega
theorem bdK13 (X : Int) : 0 ≤ X % 10000000000000 ∧ X % 10000000000000 < 100000000000000 := by omega
theorem pn0 : plainName "com/example/quittance/quittance/MoneyNonNegativePinLaw" = true := by first | (simp [plainName, overriddenIn]; done) | decide +kernel
theorem d1_0 : decode method_2_code 0 = .ok (.bipush 48, 2) := by decide +kernel
theorem d1_2 : decode method_2_code 2 = .ok (.lload_n 0, 1) := by decide +kernel
theorem d1_3 : decode method_2_code 3 = .ok (.lload_n 2, 1) := by decide +kernel
theorem d1_4 : decode method_2_code 4 = .ok (.ldiv, 1) := by decide +kernel
theorem d1_5 : decode method_2_code 5 = .ok (.ldc2_w 7, 3) := by decide +kernel
theorem d1_8 : decode method_2_code 8 = .ok (.lrem, 1) := by decide +kernel
theorem d1_9 : decode method_2_code 9 = .ok (.l2i, 1) := by decide +kernel
theorem d1_10 : decode method_2_code 10 = .ok (.iadd, 1) := by decide +kernel
theorem d1_11 : decode method_2_code 11 = .ok (.i2c, 1) := by decide +kernel
theorem d1_12 : decode method_2_code 12 = .ok (.ireturn, 1) := by decide +kernel
set_option maxRecDepth 65536 in
set_option maxHeartbeats 40000000 in
theorem m_d (l : Launch) (Z : State) (a0 : Array Value) (hw : ∀ d ∈ tables_1, d.before a0 Z = true) (v p : Int64) (c : Int32) (h0 : Heap) (n0 : Nat) (ho : Old Z n0 h0) (hp : p ≠ 0) (hc : 48 + ((v / p) % 10).toInt32 = c) (hr : 0 ≤ c.toInt ∧ c.toInt ≤ 255) :
    CN l (⟨"com/example/quittance/quittance/MoneyNonNegativePinLaw", "d", "(JJ)C"⟩ : MethodName) method_2_code 4 (some .char) [] ({ frames := 0, cells := 0, slots := 0, locals := 0 } : Room) Z n0 h0 #[(.long v), (.long p)] [] (fun w h => w = some (.int c) ∧ h = h0) := by
  refine CN.walk (plainFor_of_name pn0) ho (L0 := #[.val (.long v), .second, .val (.long p), .second]) (fun m => rfl) ?_
  intro pG e s m below meth cO T hlk hret hnm A0
  have K0 : Keep h0 h0 [] := Keep.refl _ _
  refine f_bipush A0 d1_0 (pc' := 2) rfl 48 rfl ?_
  refine f_lloadN A0 d1_2 (pc' := 3) rfl rfl ?_
  refine f_lloadN A0 d1_3 (pc' := 4) rfl rfl ?_
  refine f_ldiv A0 d1_4 (pc' := 5) rfl hp (v / p) rfl ?_
  refine f_ldc2J A0 d1_5 (pc' := 8) rfl (wd hw 8 rfl) ?_
  refine f_lrem A0 d1_8 (pc' := 9) rfl (by decide) ((v / p) % (10 : Int64)) rfl ?_
  refine f_l2i A0 d1_9 (pc' := 10) rfl (((v / p) % (10 : Int64)).toInt32) rfl ?_
  refine f_iadd A0 d1_10 (pc' := 11) rfl c hc ?_
  refine f_i2c A0 d1_11 (pc' := 12) rfl c (chr_id (by omega)) ?_
  exact f_retBN A0 hlk hret d1_12 (by decide) c (nar_id (by omega)) (by decide) (by decide) K0 ⟨rfl, rfl⟩
theorem pn1 : plainName "com/example/quittance/quittance/Money" = true := by first | (simp [plainName, overriddenIn]; done) | decide +kernel
theorem d9_0 : decode prog_6_method_5_code 0 = .ok (.aload_n 0, 1) := by decide +kernel
theorem d9_1 : decode prog_6_method_5_code 1 = .ok (.invokevirtual 37, 3) := by decide +kernel
theorem pd0 : parseMethodDescriptor "()I" = some ⟨[], some .int⟩ := by decide +kernel
theorem d9_4 : decode prog_6_method_5_code 4 = .ok (.iconst 3, 1) := by decide +kernel
theorem d9_5 : decode prog_6_method_5_code 5 = .ok (.isub, 1) := by decide +kernel
theorem d9_6 : decode prog_6_method_5_code 6 = .ok (.istore_n 1, 1) := by decide +kernel
theorem d9_7 : decode prog_6_method_5_code 7 = .ok (.iload_n 1, 1) := by decide +kernel
theorem d9_8 : decode prog_6_method_5_code 8 = .ok (.iconst 1, 1) := by decide +kernel
theorem d9_9 : decode prog_6_method_5_code 9 = .ok (.if_icmp .lt 19, 3) := by decide +kernel
theorem d9_12 : decode prog_6_method_5_code 12 = .ok (.iload_n 1, 1) := by decide +kernel
theorem d9_13 : decode prog_6_method_5_code 13 = .ok (.bipush 12, 2) := by decide +kernel
theorem d9_15 : decode prog_6_method_5_code 15 = .ok (.if_icmp .gt 13, 3) := by decide +kernel
theorem d9_18 : decode prog_6_method_5_code 18 = .ok (.aload_n 0, 1) := by decide +kernel
theorem d9_19 : decode prog_6_method_5_code 19 = .ok (.iload_n 1, 1) := by decide +kernel
theorem d9_20 : decode prog_6_method_5_code 20 = .ok (.invokevirtual 41, 3) := by decide +kernel
theorem pd1 : parseMethodDescriptor "(I)C" = some ⟨[.int], some .char⟩ := by decide +kernel
theorem d9_23 : decode prog_6_method_5_code 23 = .ok (.bipush 46, 2) := by decide +kernel
theorem d9_25 : decode prog_6_method_5_code 25 = .ok (.if_icmp .eq 7, 3) := by decide +kernel
theorem d9_32 : decode prog_6_method_5_code 32 = .ok (.lconst 0, 1) := by decide +kernel
theorem d9_33 : decode prog_6_method_5_code 33 = .ok (.lstore_n 2, 1) := by decide +kernel
theorem d9_34 : decode prog_6_method_5_code 34 = .ok (.iconst 0, 1) := by decide +kernel
theorem d9_35 : decode prog_6_method_5_code 35 = .ok (.istore 4, 2) := by decide +kernel
theorem d9_37 : decode prog_6_method_5_code 37 = .ok (.iload 4, 2) := by decide +kernel
theorem d9_39 : decode prog_6_method_5_code 39 = .ok (.aload_n 0, 1) := by decide +kernel
theorem d9_40 : decode prog_6_method_5_code 40 = .ok (.invokevirtual 37, 3) := by decide +kernel
theorem d9_43 : decode prog_6_method_5_code 43 = .ok (.if_icmp .ge 54, 3) := by decide +kernel
theorem d9_46 : decode prog_6_method_5_code 46 = .ok (.aload_n 0, 1) := by decide +kernel
theorem d9_47 : decode prog_6_method_5_code 47 = .ok (.iload 4, 2) := by decide +kernel
theorem d9_49 : decode prog_6_method_5_code 49 = .ok (.invokevirtual 41, 3) := by decide +kernel
theorem d9_52 : decode prog_6_method_5_code 52 = .ok (.istore 5, 2) := by decide +kernel
theorem d9_54 : decode prog_6_method_5_code 54 = .ok (.iload 4, 2) := by decide +kernel
theorem d9_56 : decode prog_6_method_5_code 56 = .ok (.iload_n 1, 1) := by decide +kernel
theorem d9_57 : decode prog_6_method_5_code 57 = .ok (.if_icmp .eq 34, 3) := by decide +kernel
theorem d9_60 : decode prog_6_method_5_code 60 = .ok (.iload 5, 2) := by decide +kernel
theorem d9_62 : decode prog_6_method_5_code 62 = .ok (.bipush 48, 2) := by decide +kernel
theorem d9_64 : decode prog_6_method_5_code 64 = .ok (.if_icmp .lt 10, 3) := by decide +kernel
theorem d9_67 : decode prog_6_method_5_code 67 = .ok (.iload 5, 2) := by decide +kernel
theorem d9_69 : decode prog_6_method_5_code 69 = .ok (.bipush 57, 2) := by decide +kernel
theorem d9_71 : decode prog_6_method_5_code 71 = .ok (.if_icmp .le 7, 3) := by decide +kernel
theorem d9_78 : decode prog_6_method_5_code 78 = .ok (.lload_n 2, 1) := by decide +kernel
theorem d9_79 : decode prog_6_method_5_code 79 = .ok (.ldc2_w 47, 3) := by decide +kernel
theorem d9_82 : decode prog_6_method_5_code 82 = .ok (.lmul, 1) := by decide +kernel
theorem d9_83 : decode prog_6_method_5_code 83 = .ok (.iload 5, 2) := by decide +kernel
theorem d9_85 : decode prog_6_method_5_code 85 = .ok (.bipush 48, 2) := by decide +kernel
theorem d9_87 : decode prog_6_method_5_code 87 = .ok (.isub, 1) := by decide +kernel
theorem d9_88 : decode prog_6_method_5_code 88 = .ok (.i2l, 1) := by decide +kernel
theorem d9_89 : decode prog_6_method_5_code 89 = .ok (.ladd, 1) := by decide +kernel
theorem d9_90 : decode prog_6_method_5_code 90 = .ok (.lstore_n 2, 1) := by decide +kernel
theorem d9_91 : decode prog_6_method_5_code 91 = .ok (.iinc 4 1, 3) := by decide +kernel
theorem d9_94 : decode prog_6_method_5_code 94 = .ok (.goto (-57), 3) := by decide +kernel
theorem d9_97 : decode prog_6_method_5_code 97 = .ok (.lload_n 2, 1) := by decide +kernel
theorem d9_98 : decode prog_6_method_5_code 98 = .ok (.lreturn, 1) := by decide +kernel
set_option maxRecDepth 65536 in
set_option maxHeartbeats 40000000 in
theorem m_cents4 (l : Launch) (Z : State) (a0 : Array Value) (hw : ∀ d ∈ tables_1, d.before a0 Z = true) (x t : Addr) (V : Int) (c2 c1 c0 : Int32) (zc : Int32) (O2 : Sta Z Z.heap "java/lang/String" "COMPACT_STRINGS" "Z" (.int zc)) (P5 : ¬ zc = 0) (fm : Value) (O4 : Sta Z Z.heap "jdk/internal/util/Preconditions" "SIOOBE_FORMATTER" "Ljava/util/function/BiFunction;" fm) (rG3 : fm.isRef = true) (h0 : Heap) (n0 : Nat) (ho : Old Z n0 h0) (F : Str Z h0 x t [c2, (46 : Int32), c1, c0]) (lat : ∀ c ∈ [c2, (46 : Int32), c1, c0], ¬ c < 0 ∧ ¬ (255 : Int32) < c) (e2 : c2.toInt = 48 + V / 100 % 10) (e1 : c1.toInt = 48 + V / 10 % 10) (e0 : c0.toInt = 48 + V / 1 % 10) :
    CN l (⟨"com/example/quittance/quittance/Money", "cents", "(Ljava/lang/String;)J"⟩ : MethodName) prog_6_method_5_code 6 (some .long) [] ({ frames := 5, cells := 0, slots := 0, locals := 70 } : Room) Z n0 h0 #[(.ref x)] [] (fun v h => ∃ r : Int64, v = some (.long r) ∧ r.toInt = V % 1000 ∧ h = h0) := by
  refine CN.walk (plainFor_of_name pn1) ho (L0 := #[.val (.ref x), .unset, .unset, .unset, .unset, .unset]) (fun m => rfl) ?_
  intro pG e s m below meth cO T hlk hret hnm A0
  have K0 : Keep h0 h0 [] := Keep.refl _ _
  refine f_aloadN A0 d9_0 (pc' := 1) rfl rfl rfl ?_
  refine f_callV A0 (a := x) d9_1 (pc' := 4) rfl (wd hw 59 rfl) (wd hw 60 rfl) (nfS A0 (wd hw 62 rfl)) (wd hw 62 rfl) (wd hw 61 rfl) (by decide) F.exa pd0 [] [] rfl rfl rfl 0 (Nat.le_of_eq rfl) (payLen (W := 0) A0 hw (wd hw 21 rfl) F O2 P5 (by decide) (by decide)) (kc := 0) (ks := 0) (by decide) (by decide) all0 (fun q => nomatch q) fun v1 T1 h1 L1 A1 K1 q1 => ?_
  obtain ⟨rfl, hh1⟩ := q1
  obtain rfl := hh1.symm
  show Wp pG e below _ T1 (mkF m 4 _ [(.int (4 : Int32))])
  refine f_iconst A1 d9_4 (pc' := 5) rfl 3 rfl ?_
  refine f_isub A1 d9_5 (pc' := 6) rfl (1 : Int32) (by decide) ?_
  refine f_istoreN A1 d9_6 (pc' := 7) rfl (L' := #[.val (.ref x), .val (.int (1 : Int32)), .unset, .unset, .unset, .unset]) rfl ?_
  refine f_iloadN A1 d9_7 (pc' := 8) rfl rfl ?_
  refine f_iconst A1 d9_8 (pc' := 9) rfl 1 rfl ?_
  refine f_icN A1 d9_9 (flt (by decide : ¬ (1 : Int32) < (1 : Int32))).1 (pc' := 12) rfl ?_
  refine f_iloadN A1 d9_12 (pc' := 13) rfl rfl ?_
  refine f_bipush A1 d9_13 (pc' := 15) rfl 12 rfl ?_
  refine f_icN A1 d9_15 (flt (by decide : ¬ (12 : Int32) < (1 : Int32))).2.2.1 (pc' := 18) rfl ?_
  refine f_aloadN A1 d9_18 (pc' := 19) rfl rfl rfl ?_
  refine f_iloadN A1 d9_19 (pc' := 20) rfl rfl ?_
  refine f_callV A1 (a := x) d9_20 (pc' := 23) rfl (wd hw 69 rfl) (wd hw 70 rfl) (nfS A1 (wd hw 72 rfl)) (wd hw 72 rfl) (wd hw 71 rfl) (by decide) F.exa pd1 [(.int (1 : Int32))] [] rfl rfl rfl 0 (Nat.le_of_eq rfl) (payCh (W := 0) A1 hw (wd hw 21 rfl) F (fun c hc => (lat c hc).2) O2 P5 O4 rG3 1 (Nat.le_of_ble_eq_true rfl) rfl (by decide) (by decide)) (kc := 0) (ks := 0) (by decide) (by decide) all0 (fun q => nomatch q) fun v2 T2 h2 L2 A2 K2 q2 => ?_
  obtain ⟨rfl, hh2⟩ := q2
  obtain rfl := hh2.symm
  show Wp pG e below _ T2 (mkF m 23 _ [(.int (46 : Int32))])
  refine f_bipush A2 d9_23 (pc' := 25) rfl 46 rfl ?_
  refine f_icY A2 d9_25 (teq (by decide : (46 : Int32) = (46 : Int32))).1 (pc' := 32) (by decide) (by decide) ?_
  refine f_lconst A2 d9_32 (pc' := 33) rfl 0 rfl ?_
  refine f_lstoreN A2 d9_33 (pc' := 34) rfl (L' := #[.val (.ref x), .val (.int (1 : Int32)), .val (.long (0 : Int64)), .second, .unset, .unset]) rfl ?_
  refine f_iconst A2 d9_34 (pc' := 35) rfl 0 rfl ?_
  refine f_istore A2 d9_35 (pc' := 37) rfl (L' := #[.val (.ref x), .val (.int (1 : Int32)), .val (.long (0 : Int64)), .second, .val (.int (0 : Int32)), .unset]) rfl ?_
  refine f_iload A2 d9_37 (pc' := 39) rfl rfl ?_
  refine f_aloadN A2 d9_39 (pc' := 40) rfl rfl rfl ?_
  refine f_callV A2 (a := x) d9_40 (pc' := 43) rfl (wd hw 59 rfl) (wd hw 60 rfl) (nfS A2 (wd hw 62 rfl)) (wd hw 62 rfl) (wd hw 61 rfl) (by decide) F.exa pd0 [] [(.int (0 : Int32))] rfl rfl rfl 1 (Nat.le_of_eq rfl) (payLen (W := 1) A2 hw (wd hw 21 rfl) F O2 P5 (by decide) (by decide)) (kc := 0) (ks := 0) (by decide) (by decide) all0 (fun q => nomatch q) fun v3 T3 h3 L3 A3 K3 q3 => ?_
  obtain ⟨rfl, hh3⟩ := q3
  obtain rfl := hh3.symm
  show Wp pG e below _ T3 (mkF m 43 _ [(.int (4 : Int32)), (.int (0 : Int32))])
  refine f_icN A3 d9_43 (tlt (by decide : (0 : Int32) < (4 : Int32))).2.1 (pc' := 46) rfl ?_
  refine f_aloadN A3 d9_46 (pc' := 47) rfl rfl rfl ?_
  refine f_iload A3 d9_47 (pc' := 49) rfl rfl ?_
  refine f_callV A3 (a := x) d9_49 (pc' := 52) rfl (wd hw 69 rfl) (wd hw 70 rfl) (nfS A3 (wd hw 72 rfl)) (wd hw 72 rfl) (wd hw 71 rfl) (by decide) F.exa pd1 [(.int (0 : Int32))] [] rfl rfl rfl 0 (Nat.le_of_eq rfl) (payCh (W := 0) A3 hw (wd hw 21 rfl) F (fun c hc => (lat c hc).2) O2 P5 O4 rG3 0 (Nat.le_of_ble_eq_true rfl) rfl (by decide) (by decide)) (kc := 0) (ks := 0) (by decide) (by decide) all0 (fun q => nomatch q) fun v4 T4 h4 L4 A4 K4 q4 => ?_
  obtain ⟨rfl, hh4⟩ := q4
  obtain rfl := hh4.symm
  show Wp pG e below _ T4 (mkF m 52 _ [(.int c2)])
  refine f_istore A4 d9_52 (pc' := 54) rfl (L' := #[.val (.ref x), .val (.int (1 : Int32)), .val (.long (0 : Int64)), .second, .val (.int (0 : Int32)), .val (.int c2)]) rfl ?_
  refine f_iload A4 d9_54 (pc' := 56) rfl rfl ?_
  refine f_iloadN A4 d9_56 (pc' := 57) rfl rfl ?_
  refine f_icN A4 d9_57 (feq (by decide : ¬ (0 : Int32) = (1 : Int32))).1 (pc' := 60) rfl ?_
  refine f_iload A4 d9_60 (pc' := 62) rfl rfl ?_
  refine f_bipush A4 d9_62 (pc' := 64) rfl 48 rfl ?_
  refine f_icN A4 d9_64 (flt (ge48 e2)).1 (pc' := 67) rfl ?_
  refine f_iload A4 d9_67 (pc' := 69) rfl rfl ?_
  refine f_bipush A4 d9_69 (pc' := 71) rfl 57 rfl ?_
  refine f_icY A4 d9_71 (flt (le57 e2)).2.2.2 (pc' := 78) (by decide) (by decide) ?_
  obtain ⟨s1, hs1⟩ : ∃ z, (0 : Int64) + (c2 - (48 : Int32)).toInt64 = z := ⟨_, rfl⟩
  have t1 : s1.toInt = V / 100 % 10 := by rw [accE (A := 0) hs1 rfl ⟨Int.le_refl _, by decide⟩ e2]; exact Int.zero_add _
  refine f_lloadN A4 d9_78 (pc' := 79) rfl rfl ?_
  refine f_ldc2J A4 d9_79 (pc' := 82) rfl (wd hw 91 rfl) ?_
  refine f_lmul A4 d9_82 (pc' := 83) rfl (0 : Int64) (by decide) ?_
  refine f_iload A4 d9_83 (pc' := 85) rfl rfl ?_
  refine f_bipush A4 d9_85 (pc' := 87) rfl 48 rfl ?_
  refine f_isub A4 d9_87 (pc' := 88) rfl (c2 - (48 : Int32)) rfl ?_
  refine f_i2l A4 d9_88 (pc' := 89) rfl ((c2 - (48 : Int32)).toInt64) rfl ?_
  refine f_ladd A4 d9_89 (pc' := 90) rfl s1 hs1 ?_
  refine f_lstoreN A4 d9_90 (pc' := 91) rfl (L' := #[.val (.ref x), .val (.int (1 : Int32)), .val (.long s1), .second, .val (.int (0 : Int32)), .val (.int c2)]) rfl ?_
  refine f_iinc A4 d9_91 (pc' := 94) rfl rfl (1 : Int32) (by decide) (L' := #[.val (.ref x), .val (.int (1 : Int32)), .val (.long s1), .second, .val (.int (1 : Int32)), .val (.int c2)]) rfl ?_
  refine f_goto A4 d9_94 (pc' := 37) (by decide) (by decide) ?_
  refine f_iload A4 d9_37 (pc' := 39) rfl rfl ?_
  refine f_aloadN A4 d9_39 (pc' := 40) rfl rfl rfl ?_
  refine f_callV A4 (a := x) d9_40 (pc' := 43) rfl (wd hw 59 rfl) (wd hw 60 rfl) (nfS A4 (wd hw 62 rfl)) (wd hw 62 rfl) (wd hw 61 rfl) (by decide) F.exa pd0 [] [(.int (1 : Int32))] rfl rfl rfl 1 (Nat.le_of_eq rfl) (payLen (W := 1) A4 hw (wd hw 21 rfl) F O2 P5 (by decide) (by decide)) (kc := 0) (ks := 0) (by decide) (by decide) all0 (fun q => nomatch q) fun v5 T5 h5 L5 A5 K5 q5 => ?_
  obtain ⟨rfl, hh5⟩ := q5
  obtain rfl := hh5.symm
  show Wp pG e below _ T5 (mkF m 43 _ [(.int (4 : Int32)), (.int (1 : Int32))])
  refine f_icN A5 d9_43 (tlt (by decide : (1 : Int32) < (4 : Int32))).2.1 (pc' := 46) rfl ?_
  refine f_aloadN A5 d9_46 (pc' := 47) rfl rfl rfl ?_
  refine f_iload A5 d9_47 (pc' := 49) rfl rfl ?_
  refine f_callV A5 (a := x) d9_49 (pc' := 52) rfl (wd hw 69 rfl) (wd hw 70 rfl) (nfS A5 (wd hw 72 rfl)) (wd hw 72 rfl) (wd hw 71 rfl) (by decide) F.exa pd1 [(.int (1 : Int32))] [] rfl rfl rfl 0 (Nat.le_of_eq rfl) (payCh (W := 0) A5 hw (wd hw 21 rfl) F (fun c hc => (lat c hc).2) O2 P5 O4 rG3 1 (Nat.le_of_ble_eq_true rfl) rfl (by decide) (by decide)) (kc := 0) (ks := 0) (by decide) (by decide) all0 (fun q => nomatch q) fun v6 T6 h6 L6 A6 K6 q6 => ?_
  obtain ⟨rfl, hh6⟩ := q6
  obtain rfl := hh6.symm
  show Wp pG e below _ T6 (mkF m 52 _ [(.int (46 : Int32))])
  refine f_istore A6 d9_52 (pc' := 54) rfl (L' := #[.val (.ref x), .val (.int (1 : Int32)), .val (.long s1), .second, .val (.int (1 : Int32)), .val (.int (46 : Int32))]) rfl ?_
  refine f_iload A6 d9_54 (pc' := 56) rfl rfl ?_
  refine f_iloadN A6 d9_56 (pc' := 57) rfl rfl ?_
  refine f_icY A6 d9_57 (teq (by decide : (1 : Int32) = (1 : Int32))).1 (pc' := 91) (by decide) (by decide) ?_
  refine f_iinc A6 d9_91 (pc' := 94) rfl rfl (2 : Int32) (by decide) (L' := #[.val (.ref x), .val (.int (1 : Int32)), .val (.long s1), .second, .val (.int (2 : Int32)), .val (.int (46 : Int32))]) rfl ?_
  refine f_goto A6 d9_94 (pc' := 37) (by decide) (by decide) ?_
  refine f_iload A6 d9_37 (pc' := 39) rfl rfl ?_
  refine f_aloadN A6 d9_39 (pc' := 40) rfl rfl rfl ?_
  refine f_callV A6 (a := x) d9_40 (pc' := 43) rfl (wd hw 59 rfl) (wd hw 60 rfl) (nfS A6 (wd hw 62 rfl)) (wd hw 62 rfl) (wd hw 61 rfl) (by decide) F.exa pd0 [] [(.int (2 : Int32))] rfl rfl rfl 1 (Nat.le_of_eq rfl) (payLen (W := 1) A6 hw (wd hw 21 rfl) F O2 P5 (by decide) (by decide)) (kc := 0) (ks := 0) (by decide) (by decide) all0 (fun q => nomatch q) fun v7 T7 h7 L7 A7 K7 q7 => ?_
  obtain ⟨rfl, hh7⟩ := q7
  obtain rfl := hh7.symm
  show Wp pG e below _ T7 (mkF m 43 _ [(.int (4 : Int32)), (.int (2 : Int32))])
  refine f_icN A7 d9_43 (tlt (by decide : (2 : Int32) < (4 : Int32))).2.1 (pc' := 46) rfl ?_
  refine f_aloadN A7 d9_46 (pc' := 47) rfl rfl rfl ?_
  refine f_iload A7 d9_47 (pc' := 49) rfl rfl ?_
  refine f_callV A7 (a := x) d9_49 (pc' := 52) rfl (wd hw 69 rfl) (wd hw 70 rfl) (nfS A7 (wd hw 72 rfl)) (wd hw 72 rfl) (wd hw 71 rfl) (by decide) F.exa pd1 [(.int (2 : Int32))] [] rfl rfl rfl 0 (Nat.le_of_eq rfl) (payCh (W := 0) A7 hw (wd hw 21 rfl) F (fun c hc => (lat c hc).2) O2 P5 O4 rG3 2 (Nat.le_of_ble_eq_true rfl) rfl (by decide) (by decide)) (kc := 0) (ks := 0) (by decide) (by decide) all0 (fun q => nomatch q) fun v8 T8 h8 L8 A8 K8 q8 => ?_
  obtain ⟨rfl, hh8⟩ := q8
  obtain rfl := hh8.symm
  show Wp pG e below _ T8 (mkF m 52 _ [(.int c1)])
  refine f_istore A8 d9_52 (pc' := 54) rfl (L' := #[.val (.ref x), .val (.int (1 : Int32)), .val (.long s1), .second, .val (.int (2 : Int32)), .val (.int c1)]) rfl ?_
  refine f_iload A8 d9_54 (pc' := 56) rfl rfl ?_
  refine f_iloadN A8 d9_56 (pc' := 57) rfl rfl ?_
  refine f_icN A8 d9_57 (feq (by decide : ¬ (2 : Int32) = (1 : Int32))).1 (pc' := 60) rfl ?_
  refine f_iload A8 d9_60 (pc' := 62) rfl rfl ?_
  refine f_bipush A8 d9_62 (pc' := 64) rfl 48 rfl ?_
  refine f_icN A8 d9_64 (flt (ge48 e1)).1 (pc' := 67) rfl ?_
  refine f_iload A8 d9_67 (pc' := 69) rfl rfl ?_
  refine f_bipush A8 d9_69 (pc' := 71) rfl 57 rfl ?_
  refine f_icY A8 d9_71 (flt (le57 e1)).2.2.2 (pc' := 78) (by decide) (by decide) ?_
  obtain ⟨s2, hs2⟩ : ∃ z, (s1 * (10 : Int64)) + (c1 - (48 : Int32)).toInt64 = z := ⟨_, rfl⟩
  have t2 : s2.toInt = V / 10 % 100 := by rw [accE (A := (V / 100 % 10)) hs2 (mulE t1 (bdK1 _)) (bdK1 _) e1, dvK2 V]; exact stK2 _
  refine f_lloadN A8 d9_78 (pc' := 79) rfl rfl ?_
  refine f_ldc2J A8 d9_79 (pc' := 82) rfl (wd hw 91 rfl) ?_
  refine f_lmul A8 d9_82 (pc' := 83) rfl (s1 * (10 : Int64)) rfl ?_
  refine f_iload A8 d9_83 (pc' := 85) rfl rfl ?_
  refine f_bipush A8 d9_85 (pc' := 87) rfl 48 rfl ?_
  refine f_isub A8 d9_87 (pc' := 88) rfl (c1 - (48 : Int32)) rfl ?_
  refine f_i2l A8 d9_88 (pc' := 89) rfl ((c1 - (48 : Int32)).toInt64) rfl ?_
  refine f_ladd A8 d9_89 (pc' := 90) rfl s2 hs2 ?_
  refine f_lstoreN A8 d9_90 (pc' := 91) rfl (L' := #[.val (.ref x), .val (.int (1 : Int32)), .val (.long s2), .second, .val (.int (2 : Int32)), .val (.int c1)]) rfl ?_
  refine f_iinc A8 d9_91 (pc' := 94) rfl rfl (3 : Int32) (by decide) (L' := #[.val (.ref x), .val (.int (1 : Int32)), .val (.long s2), .second, .val (.int (3 : Int32)), .val (.int c1)]) rfl ?_
  refine f_goto A8 d9_94 (pc' := 37) (by decide) (by decide) ?_
  refine f_iload A8 d9_37 (pc' := 39) rfl rfl ?_
  refine f_aloadN A8 d9_39 (pc' := 40) rfl rfl rfl ?_
  refine f_callV A8 (a := x) d9_40 (pc' := 43) rfl (wd hw 59 rfl) (wd hw 60 rfl) (nfS A8 (wd hw 62 rfl)) (wd hw 62 rfl) (wd hw 61 rfl) (by decide) F.exa pd0 [] [(.int (3 : Int32))] rfl rfl rfl 1 (Nat.le_of_eq rfl) (payLen (W := 1) A8 hw (wd hw 21 rfl) F O2 P5 (by decide) (by decide)) (kc := 0) (ks := 0) (by decide) (by decide) all0 (fun q => nomatch q) fun v9 T9 h9 L9 A9 K9 q9 => ?_
  obtain ⟨rfl, hh9⟩ := q9
  obtain rfl := hh9.symm
  show Wp pG e below _ T9 (mkF m 43 _ [(.int (4 : Int32)), (.int (3 : Int32))])
  refine f_icN A9 d9_43 (tlt (by decide : (3 : Int32) < (4 : Int32))).2.1 (pc' := 46) rfl ?_
  refine f_aloadN A9 d9_46 (pc' := 47) rfl rfl rfl ?_
  refine f_iload A9 d9_47 (pc' := 49) rfl rfl ?_
  refine f_callV A9 (a := x) d9_49 (pc' := 52) rfl (wd hw 69 rfl) (wd hw 70 rfl) (nfS A9 (wd hw 72 rfl)) (wd hw 72 rfl) (wd hw 71 rfl) (by decide) F.exa pd1 [(.int (3 : Int32))] [] rfl rfl rfl 0 (Nat.le_of_eq rfl) (payCh (W := 0) A9 hw (wd hw 21 rfl) F (fun c hc => (lat c hc).2) O2 P5 O4 rG3 3 (Nat.le_of_ble_eq_true rfl) rfl (by decide) (by decide)) (kc := 0) (ks := 0) (by decide) (by decide) all0 (fun q => nomatch q) fun v10 T10 h10 L10 A10 K10 q10 => ?_
  obtain ⟨rfl, hh10⟩ := q10
  obtain rfl := hh10.symm
  show Wp pG e below _ T10 (mkF m 52 _ [(.int c0)])
  refine f_istore A10 d9_52 (pc' := 54) rfl (L' := #[.val (.ref x), .val (.int (1 : Int32)), .val (.long s2), .second, .val (.int (3 : Int32)), .val (.int c0)]) rfl ?_
  refine f_iload A10 d9_54 (pc' := 56) rfl rfl ?_
  refine f_iloadN A10 d9_56 (pc' := 57) rfl rfl ?_
  refine f_icN A10 d9_57 (feq (by decide : ¬ (3 : Int32) = (1 : Int32))).1 (pc' := 60) rfl ?_
  refine f_iload A10 d9_60 (pc' := 62) rfl rfl ?_
  refine f_bipush A10 d9_62 (pc' := 64) rfl 48 rfl ?_
  refine f_icN A10 d9_64 (flt (ge48 e0)).1 (pc' := 67) rfl ?_
  refine f_iload A10 d9_67 (pc' := 69) rfl rfl ?_
  refine f_bipush A10 d9_69 (pc' := 71) rfl 57 rfl ?_
  refine f_icY A10 d9_71 (flt (le57 e0)).2.2.2 (pc' := 78) (by decide) (by decide) ?_
  obtain ⟨s3, hs3⟩ : ∃ z, (s2 * (10 : Int64)) + (c0 - (48 : Int32)).toInt64 = z := ⟨_, rfl⟩
  have t3 : s3.toInt = V / 1 % 1000 := by rw [accE (A := (V / 10 % 100)) hs3 (mulE t2 (bdK2 _)) (bdK2 _) e0, dvK1 V]; exact stK3 _
  refine f_lloadN A10 d9_78 (pc' := 79) rfl rfl ?_
  refine f_ldc2J A10 d9_79 (pc' := 82) rfl (wd hw 91 rfl) ?_
  refine f_lmul A10 d9_82 (pc' := 83) rfl (s2 * (10 : Int64)) rfl ?_
  refine f_iload A10 d9_83 (pc' := 85) rfl rfl ?_
  refine f_bipush A10 d9_85 (pc' := 87) rfl 48 rfl ?_
  refine f_isub A10 d9_87 (pc' := 88) rfl (c0 - (48 : Int32)) rfl ?_
  refine f_i2l A10 d9_88 (pc' := 89) rfl ((c0 - (48 : Int32)).toInt64) rfl ?_
  refine f_ladd A10 d9_89 (pc' := 90) rfl s3 hs3 ?_
  refine f_lstoreN A10 d9_90 (pc' := 91) rfl (L' := #[.val (.ref x), .val (.int (1 : Int32)), .val (.long s3), .second, .val (.int (3 : Int32)), .val (.int c0)]) rfl ?_
  refine f_iinc A10 d9_91 (pc' := 94) rfl rfl (4 : Int32) (by decide) (L' := #[.val (.ref x), .val (.int (1 : Int32)), .val (.long s3), .second, .val (.int (4 : Int32)), .val (.int c0)]) rfl ?_
  refine f_goto A10 d9_94 (pc' := 37) (by decide) (by decide) ?_
  refine f_iload A10 d9_37 (pc' := 39) rfl rfl ?_
  refine f_aloadN A10 d9_39 (pc' := 40) rfl rfl rfl ?_
  refine f_callV A10 (a := x) d9_40 (pc' := 43) rfl (wd hw 59 rfl) (wd hw 60 rfl) (nfS A10 (wd hw 62 rfl)) (wd hw 62 rfl) (wd hw 61 rfl) (by decide) F.exa pd0 [] [(.int (4 : Int32))] rfl rfl rfl 1 (Nat.le_of_eq rfl) (payLen (W := 1) A10 hw (wd hw 21 rfl) F O2 P5 (by decide) (by decide)) (kc := 0) (ks := 0) (by decide) (by decide) all0 (fun q => nomatch q) fun v11 T11 h11 L11 A11 K11 q11 => ?_
  obtain ⟨rfl, hh11⟩ := q11
  obtain rfl := hh11.symm
  show Wp pG e below _ T11 (mkF m 43 _ [(.int (4 : Int32)), (.int (4 : Int32))])
  refine f_icY A11 d9_43 (flt (by decide : ¬ (4 : Int32) < (4 : Int32))).2.1 (pc' := 97) (by decide) (by decide) ?_
  refine f_lloadN A11 d9_97 (pc' := 98) rfl rfl ?_
  exact f_retJN A11 hlk hret d9_98 (by decide) (by decide) K0 ⟨s3, rfl, by rw [t3, Int.ediv_one], rfl⟩
theorem d8_0 : decode prog_6_method_3_code 0 = .ok (.aload_n 1, 1) := by decide +kernel
theorem d8_1 : decode prog_6_method_3_code 1 = .ok (.invokestatic 7, 3) := by decide +kernel
theorem pd2 : parseMethodDescriptor "(Ljava/lang/String;)J" = some ⟨[(.object "java/lang/String")], some .long⟩ := by decide +kernel
theorem d8_4 : decode prog_6_method_3_code 4 = .ok (.lstore_n 2, 1) := by decide +kernel
theorem d8_5 : decode prog_6_method_3_code 5 = .ok (.lload_n 2, 1) := by decide +kernel
theorem d8_6 : decode prog_6_method_3_code 6 = .ok (.lconst 0, 1) := by decide +kernel
theorem d8_7 : decode prog_6_method_3_code 7 = .ok (.lcmp, 1) := by decide +kernel
theorem d8_8 : decode prog_6_method_3_code 8 = .ok (.ifCond .lt 5, 3) := by decide +kernel
theorem d8_11 : decode prog_6_method_3_code 11 = .ok (.lload_n 2, 1) := by decide +kernel
theorem d8_12 : decode prog_6_method_3_code 12 = .ok (.lreturn, 1) := by decide +kernel
set_option maxRecDepth 65536 in
set_option maxHeartbeats 40000000 in
theorem m_nn4 (l : Launch) (Z : State) (a0 : Array Value) (hw : ∀ d ∈ tables_1, d.before a0 Z = true) (u x t : Addr) (V : Int) (c2 c1 c0 : Int32) (zc : Int32) (O2 : Sta Z Z.heap "java/lang/String" "COMPACT_STRINGS" "Z" (.int zc)) (P5 : ¬ zc = 0) (fm : Value) (O4 : Sta Z Z.heap "jdk/internal/util/Preconditions" "SIOOBE_FORMATTER" "Ljava/util/function/BiFunction;" fm) (rG3 : fm.isRef = true) (h0 : Heap) (n0 : Nat) (ho : Old Z n0 h0) (F : Str Z h0 x t [c2, (46 : Int32), c1, c0]) (lat : ∀ c ∈ [c2, (46 : Int32), c1, c0], ¬ c < 0 ∧ ¬ (255 : Int32) < c) (e2 : c2.toInt = 48 + V / 100 % 10) (e1 : c1.toInt = 48 + V / 10 % 10) (e0 : c0.toInt = 48 + V / 1 % 10) :
    CN l (⟨"com/example/quittance/quittance/Money", "nonNegative", "(Ljava/lang/String;Ljava/lang/String;)J"⟩ : MethodName) prog_6_method_3_code 4 (some .long) [] ({ frames := 6, cells := 0, slots := 0, locals := 90 } : Room) Z n0 h0 #[(.ref u), (.ref x)] [] (fun v h => ∃ r : Int64, v = some (.long r) ∧ r.toInt = V % 1000 ∧ h = h0) := by
  refine CN.walk (plainFor_of_name pn1) ho (L0 := #[.val (.ref u), .val (.ref x), .unset, .unset]) (fun m => rfl) ?_
  intro pG e s m below meth cO T hlk hret hnm A0
  have K0 : Keep h0 h0 [] := Keep.refl _ _
  refine f_aloadN A0 d8_0 (pc' := 1) rfl rfl rfl ?_
  refine f_callS A0 d8_1 (pc' := 4) rfl (wd hw 56 rfl) (wd hw 57 rfl) (wd hw 54 rfl) (wd hw 58 rfl) (by decide) pd2 [(.ref x)] [] rfl rfl rfl 0 (Nat.le_of_eq rfl) (CN.pay (W := 0) A0 (m_cents4 l Z a0 hw x t V c2 c1 c0 zc O2 P5 fm O4 rG3 h0 n0 A0.old F lat e2 e1 e0) (wd hw 58 rfl) (wd hw 54 rfl) (by decide) (by decide)) (kc := 0) (ks := 0) (by decide) (by decide) all0 (fun q => nomatch q) fun v12 T12 h12 L12 A12 K12 q12 => ?_
  obtain ⟨r12, rfl, hr12, hh12⟩ := q12
  obtain rfl := hh12.symm
  show Wp pG e below _ T12 (mkF m 4 _ [(.long r12)])
  refine f_lstoreN A12 d8_4 (pc' := 5) rfl (L' := #[.val (.ref u), .val (.ref x), .val (.long r12), .second]) rfl ?_
  refine f_lloadN A12 d8_5 (pc' := 6) rfl rfl ?_
  refine f_lconst A12 d8_6 (pc' := 7) rfl 0 rfl ?_
  refine f_lcmp A12 d8_7 (pc' := 8) rfl (lcmpW r12 (0 : Int64)) rfl ?_
  refine f_ifN A12 d8_8 ((if0 _ _).trans (flt (nneg (by decide) hr12)).1) (pc' := 11) rfl ?_
  refine f_lloadN A12 d8_11 (pc' := 12) rfl rfl ?_
  exact f_retJN A12 hlk hret d8_12 (by decide) (by decide) K0 ⟨r12, rfl, hr12, rfl⟩
set_option maxRecDepth 65536 in
set_option maxHeartbeats 40000000 in
theorem m_cents5 (l : Launch) (Z : State) (a0 : Array Value) (hw : ∀ d ∈ tables_1, d.before a0 Z = true) (x t : Addr) (V : Int) (c3 c2 c1 c0 : Int32) (zc : Int32) (O2 : Sta Z Z.heap "java/lang/String" "COMPACT_STRINGS" "Z" (.int zc)) (P5 : ¬ zc = 0) (fm : Value) (O4 : Sta Z Z.heap "jdk/internal/util/Preconditions" "SIOOBE_FORMATTER" "Ljava/util/function/BiFunction;" fm) (rG3 : fm.isRef = true) (h0 : Heap) (n0 : Nat) (ho : Old Z n0 h0) (F : Str Z h0 x t [c3, c2, (46 : Int32), c1, c0]) (lat : ∀ c ∈ [c3, c2, (46 : Int32), c1, c0], ¬ c < 0 ∧ ¬ (255 : Int32) < c) (e3 : c3.toInt = 48 + V / 1000 % 10) (e2 : c2.toInt = 48 + V / 100 % 10) (e1 : c1.toInt = 48 + V / 10 % 10) (e0 : c0.toInt = 48 + V / 1 % 10) :
    CN l (⟨"com/example/quittance/quittance/Money", "cents", "(Ljava/lang/String;)J"⟩ : MethodName) prog_6_method_5_code 6 (some .long) [] ({ frames := 5, cells := 0, slots := 0, locals := 70 } : Room) Z n0 h0 #[(.ref x)] [] (fun v h => ∃ r : Int64, v = some (.long r) ∧ r.toInt = V % 10000 ∧ h = h0) := by
  refine CN.walk (plainFor_of_name pn1) ho (L0 := #[.val (.ref x), .unset, .unset, .unset, .unset, .unset]) (fun m => rfl) ?_
  intro pG e s m below meth cO T hlk hret hnm A0
  have K0 : Keep h0 h0 [] := Keep.refl _ _
  refine f_aloadN A0 d9_0 (pc' := 1) rfl rfl rfl ?_
  refine f_callV A0 (a := x) d9_1 (pc' := 4) rfl (wd hw 59 rfl) (wd hw 60 rfl) (nfS A0 (wd hw 62 rfl)) (wd hw 62 rfl) (wd hw 61 rfl) (by decide) F.exa pd0 [] [] rfl rfl rfl 0 (Nat.le_of_eq rfl) (payLen (W := 0) A0 hw (wd hw 21 rfl) F O2 P5 (by decide) (by decide)) (kc := 0) (ks := 0) (by decide) (by decide) all0 (fun q => nomatch q) fun v13 T13 h13 L13 A13 K13 q13 => ?_
  obtain ⟨rfl, hh13⟩ := q13
  obtain rfl := hh13.symm
  show Wp pG e below _ T13 (mkF m 4 _ [(.int (5 : Int32))])
  refine f_iconst A13 d9_4 (pc' := 5) rfl 3 rfl ?_
  refine f_isub A13 d9_5 (pc' := 6) rfl (2 : Int32) (by decide) ?_
  refine f_istoreN A13 d9_6 (pc' := 7) rfl (L' := #[.val (.ref x), .val (.int (2 : Int32)), .unset, .unset, .unset, .unset]) rfl ?_
  refine f_iloadN A13 d9_7 (pc' := 8) rfl rfl ?_
  refine f_iconst A13 d9_8 (pc' := 9) rfl 1 rfl ?_
  refine f_icN A13 d9_9 (flt (by decide : ¬ (2 : Int32) < (1 : Int32))).1 (pc' := 12) rfl ?_
  refine f_iloadN A13 d9_12 (pc' := 13) rfl rfl ?_
  refine f_bipush A13 d9_13 (pc' := 15) rfl 12 rfl ?_
  refine f_icN A13 d9_15 (flt (by decide : ¬ (12 : Int32) < (2 : Int32))).2.2.1 (pc' := 18) rfl ?_
  refine f_aloadN A13 d9_18 (pc' := 19) rfl rfl rfl ?_
  refine f_iloadN A13 d9_19 (pc' := 20) rfl rfl ?_
  refine f_callV A13 (a := x) d9_20 (pc' := 23) rfl (wd hw 69 rfl) (wd hw 70 rfl) (nfS A13 (wd hw 72 rfl)) (wd hw 72 rfl) (wd hw 71 rfl) (by decide) F.exa pd1 [(.int (2 : Int32))] [] rfl rfl rfl 0 (Nat.le_of_eq rfl) (payCh (W := 0) A13 hw (wd hw 21 rfl) F (fun c hc => (lat c hc).2) O2 P5 O4 rG3 2 (Nat.le_of_ble_eq_true rfl) rfl (by decide) (by decide)) (kc := 0) (ks := 0) (by decide) (by decide) all0 (fun q => nomatch q) fun v14 T14 h14 L14 A14 K14 q14 => ?_
  obtain ⟨rfl, hh14⟩ := q14
  obtain rfl := hh14.symm
  show Wp pG e below _ T14 (mkF m 23 _ [(.int (46 : Int32))])
  refine f_bipush A14 d9_23 (pc' := 25) rfl 46 rfl ?_
  refine f_icY A14 d9_25 (teq (by decide : (46 : Int32) = (46 : Int32))).1 (pc' := 32) (by decide) (by decide) ?_
  refine f_lconst A14 d9_32 (pc' := 33) rfl 0 rfl ?_
  refine f_lstoreN A14 d9_33 (pc' := 34) rfl (L' := #[.val (.ref x), .val (.int (2 : Int32)), .val (.long (0 : Int64)), .second, .unset, .unset]) rfl ?_
  refine f_iconst A14 d9_34 (pc' := 35) rfl 0 rfl ?_
  refine f_istore A14 d9_35 (pc' := 37) rfl (L' := #[.val (.ref x), .val (.int (2 : Int32)), .val (.long (0 : Int64)), .second, .val (.int (0 : Int32)), .unset]) rfl ?_
  refine f_iload A14 d9_37 (pc' := 39) rfl rfl ?_
  refine f_aloadN A14 d9_39 (pc' := 40) rfl rfl rfl ?_
  refine f_callV A14 (a := x) d9_40 (pc' := 43) rfl (wd hw 59 rfl) (wd hw 60 rfl) (nfS A14 (wd hw 62 rfl)) (wd hw 62 rfl) (wd hw 61 rfl) (by decide) F.exa pd0 [] [(.int (0 : Int32))] rfl rfl rfl 1 (Nat.le_of_eq rfl) (payLen (W := 1) A14 hw (wd hw 21 rfl) F O2 P5 (by decide) (by decide)) (kc := 0) (ks := 0) (by decide) (by decide) all0 (fun q => nomatch q) fun v15 T15 h15 L15 A15 K15 q15 => ?_
  obtain ⟨rfl, hh15⟩ := q15
  obtain rfl := hh15.symm
  show Wp pG e below _ T15 (mkF m 43 _ [(.int (5 : Int32)), (.int (0 : Int32))])
  refine f_icN A15 d9_43 (tlt (by decide : (0 : Int32) < (5 : Int32))).2.1 (pc' := 46) rfl ?_
  refine f_aloadN A15 d9_46 (pc' := 47) rfl rfl rfl ?_
  refine f_iload A15 d9_47 (pc' := 49) rfl rfl ?_
  refine f_callV A15 (a := x) d9_49 (pc' := 52) rfl (wd hw 69 rfl) (wd hw 70 rfl) (nfS A15 (wd hw 72 rfl)) (wd hw 72 rfl) (wd hw 71 rfl) (by decide) F.exa pd1 [(.int (0 : Int32))] [] rfl rfl rfl 0 (Nat.le_of_eq rfl) (payCh (W := 0) A15 hw (wd hw 21 rfl) F (fun c hc => (lat c hc).2) O2 P5 O4 rG3 0 (Nat.le_of_ble_eq_true rfl) rfl (by decide) (by decide)) (kc := 0) (ks := 0) (by decide) (by decide) all0 (fun q => nomatch q) fun v16 T16 h16 L16 A16 K16 q16 => ?_
  obtain ⟨rfl, hh16⟩ := q16
  obtain rfl := hh16.symm
  show Wp pG e below _ T16 (mkF m 52 _ [(.int c3)])
  refine f_istore A16 d9_52 (pc' := 54) rfl (L' := #[.val (.ref x), .val (.int (2 : Int32)), .val (.long (0 : Int64)), .second, .val (.int (0 : Int32)), .val (.int c3)]) rfl ?_
  refine f_iload A16 d9_54 (pc' := 56) rfl rfl ?_
  refine f_iloadN A16 d9_56 (pc' := 57) rfl rfl ?_
  refine f_icN A16 d9_57 (feq (by decide : ¬ (0 : Int32) = (2 : Int32))).1 (pc' := 60) rfl ?_
  refine f_iload A16 d9_60 (pc' := 62) rfl rfl ?_
  refine f_bipush A16 d9_62 (pc' := 64) rfl 48 rfl ?_
  refine f_icN A16 d9_64 (flt (ge48 e3)).1 (pc' := 67) rfl ?_
  refine f_iload A16 d9_67 (pc' := 69) rfl rfl ?_
  refine f_bipush A16 d9_69 (pc' := 71) rfl 57 rfl ?_
  refine f_icY A16 d9_71 (flt (le57 e3)).2.2.2 (pc' := 78) (by decide) (by decide) ?_
  obtain ⟨s1, hs1⟩ : ∃ z, (0 : Int64) + (c3 - (48 : Int32)).toInt64 = z := ⟨_, rfl⟩
  have t1 : s1.toInt = V / 1000 % 10 := by rw [accE (A := 0) hs1 rfl ⟨Int.le_refl _, by decide⟩ e3]; exact Int.zero_add _
  refine f_lloadN A16 d9_78 (pc' := 79) rfl rfl ?_
  refine f_ldc2J A16 d9_79 (pc' := 82) rfl (wd hw 91 rfl) ?_
  refine f_lmul A16 d9_82 (pc' := 83) rfl (0 : Int64) (by decide) ?_
  refine f_iload A16 d9_83 (pc' := 85) rfl rfl ?_
  refine f_bipush A16 d9_85 (pc' := 87) rfl 48 rfl ?_
  refine f_isub A16 d9_87 (pc' := 88) rfl (c3 - (48 : Int32)) rfl ?_
  refine f_i2l A16 d9_88 (pc' := 89) rfl ((c3 - (48 : Int32)).toInt64) rfl ?_
  refine f_ladd A16 d9_89 (pc' := 90) rfl s1 hs1 ?_
  refine f_lstoreN A16 d9_90 (pc' := 91) rfl (L' := #[.val (.ref x), .val (.int (2 : Int32)), .val (.long s1), .second, .val (.int (0 : Int32)), .val (.int c3)]) rfl ?_
  refine f_iinc A16 d9_91 (pc' := 94) rfl rfl (1 : Int32) (by decide) (L' := #[.val (.ref x), .val (.int (2 : Int32)), .val (.long s1), .second, .val (.int (1 : Int32)), .val (.int c3)]) rfl ?_
  refine f_goto A16 d9_94 (pc' := 37) (by decide) (by decide) ?_
  refine f_iload A16 d9_37 (pc' := 39) rfl rfl ?_
  refine f_aloadN A16 d9_39 (pc' := 40) rfl rfl rfl ?_
  refine f_callV A16 (a := x) d9_40 (pc' := 43) rfl (wd hw 59 rfl) (wd hw 60 rfl) (nfS A16 (wd hw 62 rfl)) (wd hw 62 rfl) (wd hw 61 rfl) (by decide) F.exa pd0 [] [(.int (1 : Int32))] rfl rfl rfl 1 (Nat.le_of_eq rfl) (payLen (W := 1) A16 hw (wd hw 21 rfl) F O2 P5 (by decide) (by decide)) (kc := 0) (ks := 0) (by decide) (by decide) all0 (fun q => nomatch q) fun v17 T17 h17 L17 A17 K17 q17 => ?_
  obtain ⟨rfl, hh17⟩ := q17
  obtain rfl := hh17.symm
  show Wp pG e below _ T17 (mkF m 43 _ [(.int (5 : Int32)), (.int (1 : Int32))])
  refine f_icN A17 d9_43 (tlt (by decide : (1 : Int32) < (5 : Int32))).2.1 (pc' := 46) rfl ?_
  refine f_aloadN A17 d9_46 (pc' := 47) rfl rfl rfl ?_
  refine f_iload A17 d9_47 (pc' := 49) rfl rfl ?_
  refine f_callV A17 (a := x) d9_49 (pc' := 52) rfl (wd hw 69 rfl) (wd hw 70 rfl) (nfS A17 (wd hw 72 rfl)) (wd hw 72 rfl) (wd hw 71 rfl) (by decide) F.exa pd1 [(.int (1 : Int32))] [] rfl rfl rfl 0 (Nat.le_of_eq rfl) (payCh (W := 0) A17 hw (wd hw 21 rfl) F (fun c hc => (lat c hc).2) O2 P5 O4 rG3 1 (Nat.le_of_ble_eq_true rfl) rfl (by decide) (by decide)) (kc := 0) (ks := 0) (by decide) (by decide) all0 (fun q => nomatch q) fun v18 T18 h18 L18 A18 K18 q18 => ?_
  obtain ⟨rfl, hh18⟩ := q18
  obtain rfl := hh18.symm
  show Wp pG e below _ T18 (mkF m 52 _ [(.int c2)])
  refine f_istore A18 d9_52 (pc' := 54) rfl (L' := #[.val (.ref x), .val (.int (2 : Int32)), .val (.long s1), .second, .val (.int (1 : Int32)), .val (.int c2)]) rfl ?_
  refine f_iload A18 d9_54 (pc' := 56) rfl rfl ?_
  refine f_iloadN A18 d9_56 (pc' := 57) rfl rfl ?_
  refine f_icN A18 d9_57 (feq (by decide : ¬ (1 : Int32) = (2 : Int32))).1 (pc' := 60) rfl ?_
  refine f_iload A18 d9_60 (pc' := 62) rfl rfl ?_
  refine f_bipush A18 d9_62 (pc' := 64) rfl 48 rfl ?_
  refine f_icN A18 d9_64 (flt (ge48 e2)).1 (pc' := 67) rfl ?_
  refine f_iload A18 d9_67 (pc' := 69) rfl rfl ?_
  refine f_bipush A18 d9_69 (pc' := 71) rfl 57 rfl ?_
  refine f_icY A18 d9_71 (flt (le57 e2)).2.2.2 (pc' := 78) (by decide) (by decide) ?_
  obtain ⟨s2, hs2⟩ : ∃ z, (s1 * (10 : Int64)) + (c2 - (48 : Int32)).toInt64 = z := ⟨_, rfl⟩
  have t2 : s2.toInt = V / 100 % 100 := by rw [accE (A := (V / 1000 % 10)) hs2 (mulE t1 (bdK1 _)) (bdK1 _) e2, dvK3 V]; exact stK2 _
  refine f_lloadN A18 d9_78 (pc' := 79) rfl rfl ?_
  refine f_ldc2J A18 d9_79 (pc' := 82) rfl (wd hw 91 rfl) ?_
  refine f_lmul A18 d9_82 (pc' := 83) rfl (s1 * (10 : Int64)) rfl ?_
  refine f_iload A18 d9_83 (pc' := 85) rfl rfl ?_
  refine f_bipush A18 d9_85 (pc' := 87) rfl 48 rfl ?_
  refine f_isub A18 d9_87 (pc' := 88) rfl (c2 - (48 : Int32)) rfl ?_
  refine f_i2l A18 d9_88 (pc' := 89) rfl ((c2 - (48 : Int32)).toInt64) rfl ?_
  refine f_ladd A18 d9_89 (pc' := 90) rfl s2 hs2 ?_
  refine f_lstoreN A18 d9_90 (pc' := 91) rfl (L' := #[.val (.ref x), .val (.int (2 : Int32)), .val (.long s2), .second, .val (.int (1 : Int32)), .val (.int c2)]) rfl ?_
  refine f_iinc A18 d9_91 (pc' := 94) rfl rfl (2 : Int32) (by decide) (L' := #[.val (.ref x), .val (.int (2 : Int32)), .val (.long s2), .second, .val (.int (2 : Int32)), .val (.int c2)]) rfl ?_
  refine f_goto A18 d9_94 (pc' := 37) (by decide) (by decide) ?_
  refine f_iload A18 d9_37 (pc' := 39) rfl rfl ?_
  refine f_aloadN A18 d9_39 (pc' := 40) rfl rfl rfl ?_
  refine f_callV A18 (a := x) d9_40 (pc' := 43) rfl (wd hw 59 rfl) (wd hw 60 rfl) (nfS A18 (wd hw 62 rfl)) (wd hw 62 rfl) (wd hw 61 rfl) (by decide) F.exa pd0 [] [(.int (2 : Int32))] rfl rfl rfl 1 (Nat.le_of_eq rfl) (payLen (W := 1) A18 hw (wd hw 21 rfl) F O2 P5 (by decide) (by decide)) (kc := 0) (ks := 0) (by decide) (by decide) all0 (fun q => nomatch q) fun v19 T19 h19 L19 A19 K19 q19 => ?_
  obtain ⟨rfl, hh19⟩ := q19
  obtain rfl := hh19.symm
  show Wp pG e below _ T19 (mkF m 43 _ [(.int (5 : Int32)), (.int (2 : Int32))])
  refine f_icN A19 d9_43 (tlt (by decide : (2 : Int32) < (5 : Int32))).2.1 (pc' := 46) rfl ?_
  refine f_aloadN A19 d9_46 (pc' := 47) rfl rfl rfl ?_
  refine f_iload A19 d9_47 (pc' := 49) rfl rfl ?_
  refine f_callV A19 (a := x) d9_49 (pc' := 52) rfl (wd hw 69 rfl) (wd hw 70 rfl) (nfS A19 (wd hw 72 rfl)) (wd hw 72 rfl) (wd hw 71 rfl) (by decide) F.exa pd1 [(.int (2 : Int32))] [] rfl rfl rfl 0 (Nat.le_of_eq rfl) (payCh (W := 0) A19 hw (wd hw 21 rfl) F (fun c hc => (lat c hc).2) O2 P5 O4 rG3 2 (Nat.le_of_ble_eq_true rfl) rfl (by decide) (by decide)) (kc := 0) (ks := 0) (by decide) (by decide) all0 (fun q => nomatch q) fun v20 T20 h20 L20 A20 K20 q20 => ?_
  obtain ⟨rfl, hh20⟩ := q20
  obtain rfl := hh20.symm
  show Wp pG e below _ T20 (mkF m 52 _ [(.int (46 : Int32))])
  refine f_istore A20 d9_52 (pc' := 54) rfl (L' := #[.val (.ref x), .val (.int (2 : Int32)), .val (.long s2), .second, .val (.int (2 : Int32)), .val (.int (46 : Int32))]) rfl ?_
  refine f_iload A20 d9_54 (pc' := 56) rfl rfl ?_
  refine f_iloadN A20 d9_56 (pc' := 57) rfl rfl ?_
  refine f_icY A20 d9_57 (teq (by decide : (2 : Int32) = (2 : Int32))).1 (pc' := 91) (by decide) (by decide) ?_
  refine f_iinc A20 d9_91 (pc' := 94) rfl rfl (3 : Int32) (by decide) (L' := #[.val (.ref x), .val (.int (2 : Int32)), .val (.long s2), .second, .val (.int (3 : Int32)), .val (.int (46 : Int32))]) rfl ?_
  refine f_goto A20 d9_94 (pc' := 37) (by decide) (by decide) ?_
  refine f_iload A20 d9_37 (pc' := 39) rfl rfl ?_
  refine f_aloadN A20 d9_39 (pc' := 40) rfl rfl rfl ?_
  refine f_callV A20 (a := x) d9_40 (pc' := 43) rfl (wd hw 59 rfl) (wd hw 60 rfl) (nfS A20 (wd hw 62 rfl)) (wd hw 62 rfl) (wd hw 61 rfl) (by decide) F.exa pd0 [] [(.int (3 : Int32))] rfl rfl rfl 1 (Nat.le_of_eq rfl) (payLen (W := 1) A20 hw (wd hw 21 rfl) F O2 P5 (by decide) (by decide)) (kc := 0) (ks := 0) (by decide) (by decide) all0 (fun q => nomatch q) fun v21 T21 h21 L21 A21 K21 q21 => ?_
  obtain ⟨rfl, hh21⟩ := q21
  obtain rfl := hh21.symm
  show Wp pG e below _ T21 (mkF m 43 _ [(.int (5 : Int32)), (.int (3 : Int32))])
  refine f_icN A21 d9_43 (tlt (by decide : (3 : Int32) < (5 : Int32))).2.1 (pc' := 46) rfl ?_
  refine f_aloadN A21 d9_46 (pc' := 47) rfl rfl rfl ?_
  refine f_iload A21 d9_47 (pc' := 49) rfl rfl ?_
  refine f_callV A21 (a := x) d9_49 (pc' := 52) rfl (wd hw 69 rfl) (wd hw 70 rfl) (nfS A21 (wd hw 72 rfl)) (wd hw 72 rfl) (wd hw 71 rfl) (by decide) F.exa pd1 [(.int (3 : Int32))] [] rfl rfl rfl 0 (Nat.le_of_eq rfl) (payCh (W := 0) A21 hw (wd hw 21 rfl) F (fun c hc => (lat c hc).2) O2 P5 O4 rG3 3 (Nat.le_of_ble_eq_true rfl) rfl (by decide) (by decide)) (kc := 0) (ks := 0) (by decide) (by decide) all0 (fun q => nomatch q) fun v22 T22 h22 L22 A22 K22 q22 => ?_
  obtain ⟨rfl, hh22⟩ := q22
  obtain rfl := hh22.symm
  show Wp pG e below _ T22 (mkF m 52 _ [(.int c1)])
  refine f_istore A22 d9_52 (pc' := 54) rfl (L' := #[.val (.ref x), .val (.int (2 : Int32)), .val (.long s2), .second, .val (.int (3 : Int32)), .val (.int c1)]) rfl ?_
  refine f_iload A22 d9_54 (pc' := 56) rfl rfl ?_
  refine f_iloadN A22 d9_56 (pc' := 57) rfl rfl ?_
  refine f_icN A22 d9_57 (feq (by decide : ¬ (3 : Int32) = (2 : Int32))).1 (pc' := 60) rfl ?_
  refine f_iload A22 d9_60 (pc' := 62) rfl rfl ?_
  refine f_bipush A22 d9_62 (pc' := 64) rfl 48 rfl ?_
  refine f_icN A22 d9_64 (flt (ge48 e1)).1 (pc' := 67) rfl ?_
  refine f_iload A22 d9_67 (pc' := 69) rfl rfl ?_
  refine f_bipush A22 d9_69 (pc' := 71) rfl 57 rfl ?_
  refine f_icY A22 d9_71 (flt (le57 e1)).2.2.2 (pc' := 78) (by decide) (by decide) ?_
  obtain ⟨s3, hs3⟩ : ∃ z, (s2 * (10 : Int64)) + (c1 - (48 : Int32)).toInt64 = z := ⟨_, rfl⟩
  have t3 : s3.toInt = V / 10 % 1000 := by rw [accE (A := (V / 100 % 100)) hs3 (mulE t2 (bdK2 _)) (bdK2 _) e1, dvK2 V]; exact stK3 _
  refine f_lloadN A22 d9_78 (pc' := 79) rfl rfl ?_
  refine f_ldc2J A22 d9_79 (pc' := 82) rfl (wd hw 91 rfl) ?_
  refine f_lmul A22 d9_82 (pc' := 83) rfl (s2 * (10 : Int64)) rfl ?_
  refine f_iload A22 d9_83 (pc' := 85) rfl rfl ?_
  refine f_bipush A22 d9_85 (pc' := 87) rfl 48 rfl ?_
  refine f_isub A22 d9_87 (pc' := 88) rfl (c1 - (48 : Int32)) rfl ?_
  refine f_i2l A22 d9_88 (pc' := 89) rfl ((c1 - (48 : Int32)).toInt64) rfl ?_
  refine f_ladd A22 d9_89 (pc' := 90) rfl s3 hs3 ?_
  refine f_lstoreN A22 d9_90 (pc' := 91) rfl (L' := #[.val (.ref x), .val (.int (2 : Int32)), .val (.long s3), .second, .val (.int (3 : Int32)), .val (.int c1)]) rfl ?_
  refine f_iinc A22 d9_91 (pc' := 94) rfl rfl (4 : Int32) (by decide) (L' := #[.val (.ref x), .val (.int (2 : Int32)), .val (.long s3), .second, .val (.int (4 : Int32)), .val (.int c1)]) rfl ?_
  refine f_goto A22 d9_94 (pc' := 37) (by decide) (by decide) ?_
  refine f_iload A22 d9_37 (pc' := 39) rfl rfl ?_
  refine f_aloadN A22 d9_39 (pc' := 40) rfl rfl rfl ?_
  refine f_callV A22 (a := x) d9_40 (pc' := 43) rfl (wd hw 59 rfl) (wd hw 60 rfl) (nfS A22 (wd hw 62 rfl)) (wd hw 62 rfl) (wd hw 61 rfl) (by decide) F.exa pd0 [] [(.int (4 : Int32))] rfl rfl rfl 1 (Nat.le_of_eq rfl) (payLen (W := 1) A22 hw (wd hw 21 rfl) F O2 P5 (by decide) (by decide)) (kc := 0) (ks := 0) (by decide) (by decide) all0 (fun q => nomatch q) fun v23 T23 h23 L23 A23 K23 q23 => ?_
  obtain ⟨rfl, hh23⟩ := q23
  obtain rfl := hh23.symm
  show Wp pG e below _ T23 (mkF m 43 _ [(.int (5 : Int32)), (.int (4 : Int32))])
  refine f_icN A23 d9_43 (tlt (by decide : (4 : Int32) < (5 : Int32))).2.1 (pc' := 46) rfl ?_
  refine f_aloadN A23 d9_46 (pc' := 47) rfl rfl rfl ?_
  refine f_iload A23 d9_47 (pc' := 49) rfl rfl ?_
  refine f_callV A23 (a := x) d9_49 (pc' := 52) rfl (wd hw 69 rfl) (wd hw 70 rfl) (nfS A23 (wd hw 72 rfl)) (wd hw 72 rfl) (wd hw 71 rfl) (by decide) F.exa pd1 [(.int (4 : Int32))] [] rfl rfl rfl 0 (Nat.le_of_eq rfl) (payCh (W := 0) A23 hw (wd hw 21 rfl) F (fun c hc => (lat c hc).2) O2 P5 O4 rG3 4 (Nat.le_of_ble_eq_true rfl) rfl (by decide) (by decide)) (kc := 0) (ks := 0) (by decide) (by decide) all0 (fun q => nomatch q) fun v24 T24 h24 L24 A24 K24 q24 => ?_
  obtain ⟨rfl, hh24⟩ := q24
  obtain rfl := hh24.symm
  show Wp pG e below _ T24 (mkF m 52 _ [(.int c0)])
  refine f_istore A24 d9_52 (pc' := 54) rfl (L' := #[.val (.ref x), .val (.int (2 : Int32)), .val (.long s3), .second, .val (.int (4 : Int32)), .val (.int c0)]) rfl ?_
  refine f_iload A24 d9_54 (pc' := 56) rfl rfl ?_
  refine f_iloadN A24 d9_56 (pc' := 57) rfl rfl ?_
  refine f_icN A24 d9_57 (feq (by decide : ¬ (4 : Int32) = (2 : Int32))).1 (pc' := 60) rfl ?_
  refine f_iload A24 d9_60 (pc' := 62) rfl rfl ?_
  refine f_bipush A24 d9_62 (pc' := 64) rfl 48 rfl ?_
  refine f_icN A24 d9_64 (flt (ge48 e0)).1 (pc' := 67) rfl ?_
  refine f_iload A24 d9_67 (pc' := 69) rfl rfl ?_
  refine f_bipush A24 d9_69 (pc' := 71) rfl 57 rfl ?_
  refine f_icY A24 d9_71 (flt (le57 e0)).2.2.2 (pc' := 78) (by decide) (by decide) ?_
  obtain ⟨s4, hs4⟩ : ∃ z, (s3 * (10 : Int64)) + (c0 - (48 : Int32)).toInt64 = z := ⟨_, rfl⟩
  have t4 : s4.toInt = V / 1 % 10000 := by rw [accE (A := (V / 10 % 1000)) hs4 (mulE t3 (bdK3 _)) (bdK3 _) e0, dvK1 V]; exact stK4 _
  refine f_lloadN A24 d9_78 (pc' := 79) rfl rfl ?_
  refine f_ldc2J A24 d9_79 (pc' := 82) rfl (wd hw 91 rfl) ?_
  refine f_lmul A24 d9_82 (pc' := 83) rfl (s3 * (10 : Int64)) rfl ?_
  refine f_iload A24 d9_83 (pc' := 85) rfl rfl ?_
  refine f_bipush A24 d9_85 (pc' := 87) rfl 48 rfl ?_
  refine f_isub A24 d9_87 (pc' := 88) rfl (c0 - (48 : Int32)) rfl ?_
  refine f_i2l A24 d9_88 (pc' := 89) rfl ((c0 - (48 : Int32)).toInt64) rfl ?_
  refine f_ladd A24 d9_89 (pc' := 90) rfl s4 hs4 ?_
  refine f_lstoreN A24 d9_90 (pc' := 91) rfl (L' := #[.val (.ref x), .val (.int (2 : Int32)), .val (.long s4), .second, .val (.int (4 : Int32)), .val (.int c0)]) rfl ?_
  refine f_iinc A24 d9_91 (pc' := 94) rfl rfl (5 : Int32) (by decide) (L' := #[.val (.ref x), .val (.int (2 : Int32)), .val (.long s4), .second, .val (.int (5 : Int32)), .val (.int c0)]) rfl ?_
  refine f_goto A24 d9_94 (pc' := 37) (by decide) (by decide) ?_
  refine f_iload A24 d9_37 (pc' := 39) rfl rfl ?_
  refine f_aloadN A24 d9_39 (pc' := 40) rfl rfl rfl ?_
  refine f_callV A24 (a := x) d9_40 (pc' := 43) rfl (wd hw 59 rfl) (wd hw 60 rfl) (nfS A24 (wd hw 62 rfl)) (wd hw 62 rfl) (wd hw 61 rfl) (by decide) F.exa pd0 [] [(.int (5 : Int32))] rfl rfl rfl 1 (Nat.le_of_eq rfl) (payLen (W := 1) A24 hw (wd hw 21 rfl) F O2 P5 (by decide) (by decide)) (kc := 0) (ks := 0) (by decide) (by decide) all0 (fun q => nomatch q) fun v25 T25 h25 L25 A25 K25 q25 => ?_
  obtain ⟨rfl, hh25⟩ := q25
  obtain rfl := hh25.symm
  show Wp pG e below _ T25 (mkF m 43 _ [(.int (5 : Int32)), (.int (5 : Int32))])
  refine f_icY A25 d9_43 (flt (by decide : ¬ (5 : Int32) < (5 : Int32))).2.1 (pc' := 97) (by decide) (by decide) ?_
  refine f_lloadN A25 d9_97 (pc' := 98) rfl rfl ?_
  exact f_retJN A25 hlk hret d9_98 (by decide) (by decide) K0 ⟨s4, rfl, by rw [t4, Int.ediv_one], rfl⟩
set_option maxRecDepth 65536 in
set_option maxHeartbeats 40000000 in
theorem m_nn5 (l : Launch) (Z : State) (a0 : Array Value) (hw : ∀ d ∈ tables_1, d.before a0 Z = true) (u x t : Addr) (V : Int) (c3 c2 c1 c0 : Int32) (zc : Int32) (O2 : Sta Z Z.heap "java/lang/String" "COMPACT_STRINGS" "Z" (.int zc)) (P5 : ¬ zc = 0) (fm : Value) (O4 : Sta Z Z.heap "jdk/internal/util/Preconditions" "SIOOBE_FORMATTER" "Ljava/util/function/BiFunction;" fm) (rG3 : fm.isRef = true) (h0 : Heap) (n0 : Nat) (ho : Old Z n0 h0) (F : Str Z h0 x t [c3, c2, (46 : Int32), c1, c0]) (lat : ∀ c ∈ [c3, c2, (46 : Int32), c1, c0], ¬ c < 0 ∧ ¬ (255 : Int32) < c) (e3 : c3.toInt = 48 + V / 1000 % 10) (e2 : c2.toInt = 48 + V / 100 % 10) (e1 : c1.toInt = 48 + V / 10 % 10) (e0 : c0.toInt = 48 + V / 1 % 10) :
    CN l (⟨"com/example/quittance/quittance/Money", "nonNegative", "(Ljava/lang/String;Ljava/lang/String;)J"⟩ : MethodName) prog_6_method_3_code 4 (some .long) [] ({ frames := 6, cells := 0, slots := 0, locals := 90 } : Room) Z n0 h0 #[(.ref u), (.ref x)] [] (fun v h => ∃ r : Int64, v = some (.long r) ∧ r.toInt = V % 10000 ∧ h = h0) := by
  refine CN.walk (plainFor_of_name pn1) ho (L0 := #[.val (.ref u), .val (.ref x), .unset, .unset]) (fun m => rfl) ?_
  intro pG e s m below meth cO T hlk hret hnm A0
  have K0 : Keep h0 h0 [] := Keep.refl _ _
  refine f_aloadN A0 d8_0 (pc' := 1) rfl rfl rfl ?_
  refine f_callS A0 d8_1 (pc' := 4) rfl (wd hw 56 rfl) (wd hw 57 rfl) (wd hw 54 rfl) (wd hw 58 rfl) (by decide) pd2 [(.ref x)] [] rfl rfl rfl 0 (Nat.le_of_eq rfl) (CN.pay (W := 0) A0 (m_cents5 l Z a0 hw x t V c3 c2 c1 c0 zc O2 P5 fm O4 rG3 h0 n0 A0.old F lat e3 e2 e1 e0) (wd hw 58 rfl) (wd hw 54 rfl) (by decide) (by decide)) (kc := 0) (ks := 0) (by decide) (by decide) all0 (fun q => nomatch q) fun v26 T26 h26 L26 A26 K26 q26 => ?_
  obtain ⟨r26, rfl, hr26, hh26⟩ := q26
  obtain rfl := hh26.symm
  show Wp pG e below _ T26 (mkF m 4 _ [(.long r26)])
  refine f_lstoreN A26 d8_4 (pc' := 5) rfl (L' := #[.val (.ref u), .val (.ref x), .val (.long r26), .second]) rfl ?_
  refine f_lloadN A26 d8_5 (pc' := 6) rfl rfl ?_
  refine f_lconst A26 d8_6 (pc' := 7) rfl 0 rfl ?_
  refine f_lcmp A26 d8_7 (pc' := 8) rfl (lcmpW r26 (0 : Int64)) rfl ?_
  refine f_ifN A26 d8_8 ((if0 _ _).trans (flt (nneg (by decide) hr26)).1) (pc' := 11) rfl ?_
  refine f_lloadN A26 d8_11 (pc' := 12) rfl rfl ?_
  exact f_retJN A26 hlk hret d8_12 (by decide) (by decide) K0 ⟨r26, rfl, hr26, rfl⟩
set_option maxRecDepth 65536 in
set_option maxHeartbeats 40000000 in
theorem m_cents9 (l : Launch) (Z : State) (a0 : Array Value) (hw : ∀ d ∈ tables_1, d.before a0 Z = true) (x t : Addr) (V : Int) (c7 c6 c5 c4 c3 c2 c1 c0 : Int32) (zc : Int32) (O2 : Sta Z Z.heap "java/lang/String" "COMPACT_STRINGS" "Z" (.int zc)) (P5 : ¬ zc = 0) (fm : Value) (O4 : Sta Z Z.heap "jdk/internal/util/Preconditions" "SIOOBE_FORMATTER" "Ljava/util/function/BiFunction;" fm) (rG3 : fm.isRef = true) (h0 : Heap) (n0 : Nat) (ho : Old Z n0 h0) (F : Str Z h0 x t [c7, c6, c5, c4, c3, c2, (46 : Int32), c1, c0]) (lat : ∀ c ∈ [c7, c6, c5, c4, c3, c2, (46 : Int32), c1, c0], ¬ c < 0 ∧ ¬ (255 : Int32) < c) (e7 : c7.toInt = 48 + V / 10000000 % 10) (e6 : c6.toInt = 48 + V / 1000000 % 10) (e5 : c5.toInt = 48 + V / 100000 % 10) (e4 : c4.toInt = 48 + V / 10000 % 10) (e3 : c3.toInt = 48 + V / 1000 % 10) (e2 : c2.toInt = 48 + V / 100 % 10) (e1 : c1.toInt = 48 + V / 10 % 10) (e0 : c0.toInt = 48 + V / 1 % 10) :
    CN l (⟨"com/example/quittance/quittance/Money", "cents", "(Ljava/lang/String;)J"⟩ : MethodName) prog_6_method_5_code 6 (some .long) [] ({ frames := 5, cells := 0, slots := 0, locals := 70 } : Room) Z n0 h0 #[(.ref x)] [] (fun v h => ∃ r : Int64, v = some (.long r) ∧ r.toInt = V % 100000000 ∧ h = h0) := by
  refine CN.walk (plainFor_of_name pn1) ho (L0 := #[.val (.ref x), .unset, .unset, .unset, .unset, .unset]) (fun m => rfl) ?_
  intro pG e s m below meth cO T hlk hret hnm A0
  have K0 : Keep h0 h0 [] := Keep.refl _ _
  refine f_aloadN A0 d9_0 (pc' := 1) rfl rfl rfl ?_
  refine f_callV A0 (a := x) d9_1 (pc' := 4) rfl (wd hw 59 rfl) (wd hw 60 rfl) (nfS A0 (wd hw 62 rfl)) (wd hw 62 rfl) (wd hw 61 rfl) (by decide) F.exa pd0 [] [] rfl rfl rfl 0 (Nat.le_of_eq rfl) (payLen (W := 0) A0 hw (wd hw 21 rfl) F O2 P5 (by decide) (by decide)) (kc := 0) (ks := 0) (by decide) (by decide) all0 (fun q => nomatch q) fun v27 T27 h27 L27 A27 K27 q27 => ?_
  obtain ⟨rfl, hh27⟩ := q27
  obtain rfl := hh27.symm
  show Wp pG e below _ T27 (mkF m 4 _ [(.int (9 : Int32))])
  refine f_iconst A27 d9_4 (pc' := 5) rfl 3 rfl ?_
  refine f_isub A27 d9_5 (pc' := 6) rfl (6 : Int32) (by decide) ?_
  refine f_istoreN A27 d9_6 (pc' := 7) rfl (L' := #[.val (.ref x), .val (.int (6 : Int32)), .unset, .unset, .unset, .unset]) rfl ?_
  refine f_iloadN A27 d9_7 (pc' := 8) rfl rfl ?_
  refine f_iconst A27 d9_8 (pc' := 9) rfl 1 rfl ?_
  refine f_icN A27 d9_9 (flt (by decide : ¬ (6 : Int32) < (1 : Int32))).1 (pc' := 12) rfl ?_
  refine f_iloadN A27 d9_12 (pc' := 13) rfl rfl ?_
  refine f_bipush A27 d9_13 (pc' := 15) rfl 12 rfl ?_
  refine f_icN A27 d9_15 (flt (by decide : ¬ (12 : Int32) < (6 : Int32))).2.2.1 (pc' := 18) rfl ?_
  refine f_aloadN A27 d9_18 (pc' := 19) rfl rfl rfl ?_
  refine f_iloadN A27 d9_19 (pc' := 20) rfl rfl ?_
  refine f_callV A27 (a := x) d9_20 (pc' := 23) rfl (wd hw 69 rfl) (wd hw 70 rfl) (nfS A27 (wd hw 72 rfl)) (wd hw 72 rfl) (wd hw 71 rfl) (by decide) F.exa pd1 [(.int (6 : Int32))] [] rfl rfl rfl 0 (Nat.le_of_eq rfl) (payCh (W := 0) A27 hw (wd hw 21 rfl) F (fun c hc => (lat c hc).2) O2 P5 O4 rG3 6 (Nat.le_of_ble_eq_true rfl) rfl (by decide) (by decide)) (kc := 0) (ks := 0) (by decide) (by decide) all0 (fun q => nomatch q) fun v28 T28 h28 L28 A28 K28 q28 => ?_
  obtain ⟨rfl, hh28⟩ := q28
  obtain rfl := hh28.symm
  show Wp pG e below _ T28 (mkF m 23 _ [(.int (46 : Int32))])
  refine f_bipush A28 d9_23 (pc' := 25) rfl 46 rfl ?_
  refine f_icY A28 d9_25 (teq (by decide : (46 : Int32) = (46 : Int32))).1 (pc' := 32) (by decide) (by decide) ?_
  refine f_lconst A28 d9_32 (pc' := 33) rfl 0 rfl ?_
  refine f_lstoreN A28 d9_33 (pc' := 34) rfl (L' := #[.val (.ref x), .val (.int (6 : Int32)), .val (.long (0 : Int64)), .second, .unset, .unset]) rfl ?_
  refine f_iconst A28 d9_34 (pc' := 35) rfl 0 rfl ?_
  refine f_istore A28 d9_35 (pc' := 37) rfl (L' := #[.val (.ref x), .val (.int (6 : Int32)), .val (.long (0 : Int64)), .second, .val (.int (0 : Int32)), .unset]) rfl ?_
  refine f_iload A28 d9_37 (pc' := 39) rfl rfl ?_
  refine f_aloadN A28 d9_39 (pc' := 40) rfl rfl rfl ?_
  refine f_callV A28 (a := x) d9_40 (pc' := 43) rfl (wd hw 59 rfl) (wd hw 60 rfl) (nfS A28 (wd hw 62 rfl)) (wd hw 62 rfl) (wd hw 61 rfl) (by decide) F.exa pd0 [] [(.int (0 : Int32))] rfl rfl rfl 1 (Nat.le_of_eq rfl) (payLen (W := 1) A28 hw (wd hw 21 rfl) F O2 P5 (by decide) (by decide)) (kc := 0) (ks := 0) (by decide) (by decide) all0 (fun q => nomatch q) fun v29 T29 h29 L29 A29 K29 q29 => ?_
  obtain ⟨rfl, hh29⟩ := q29
  obtain rfl := hh29.symm
  show Wp pG e below _ T29 (mkF m 43 _ [(.int (9 : Int32)), (.int (0 : Int32))])
  refine f_icN A29 d9_43 (tlt (by decide : (0 : Int32) < (9 : Int32))).2.1 (pc' := 46) rfl ?_
  refine f_aloadN A29 d9_46 (pc' := 47) rfl rfl rfl ?_
  refine f_iload A29 d9_47 (pc' := 49) rfl rfl ?_
  refine f_callV A29 (a := x) d9_49 (pc' := 52) rfl (wd hw 69 rfl) (wd hw 70 rfl) (nfS A29 (wd hw 72 rfl)) (wd hw 72 rfl) (wd hw 71 rfl) (by decide) F.exa pd1 [(.int (0 : Int32))] [] rfl rfl rfl 0 (Nat.le_of_eq rfl) (payCh (W := 0) A29 hw (wd hw 21 rfl) F (fun c hc => (lat c hc).2) O2 P5 O4 rG3 0 (Nat.le_of_ble_eq_true rfl) rfl (by decide) (by decide)) (kc := 0) (ks := 0) (by decide) (by decide) all0 (fun q => nomatch q) fun v30 T30 h30 L30 A30 K30 q30 => ?_
  obtain ⟨rfl, hh30⟩ := q30
  obtain rfl := hh30.symm
  show Wp pG e below _ T30 (mkF m 52 _ [(.int c7)])
  refine f_istore A30 d9_52 (pc' := 54) rfl (L' := #[.val (.ref x), .val (.int (6 : Int32)), .val (.long (0 : Int64)), .second, .val (.int (0 : Int32)), .val (.int c7)]) rfl ?_
  refine f_iload A30 d9_54 (pc' := 56) rfl rfl ?_
  refine f_iloadN A30 d9_56 (pc' := 57) rfl rfl ?_
  refine f_icN A30 d9_57 (feq (by decide : ¬ (0 : Int32) = (6 : Int32))).1 (pc' := 60) rfl ?_
  refine f_iload A30 d9_60 (pc' := 62) rfl rfl ?_
  refine f_bipush A30 d9_62 (pc' := 64) rfl 48 rfl ?_
  refine f_icN A30 d9_64 (flt (ge48 e7)).1 (pc' := 67) rfl ?_
  refine f_iload A30 d9_67 (pc' := 69) rfl rfl ?_
  refine f_bipush A30 d9_69 (pc' := 71) rfl 57 rfl ?_
  refine f_icY A30 d9_71 (flt (le57 e7)).2.2.2 (pc' := 78) (by decide) (by decide) ?_
  obtain ⟨s1, hs1⟩ : ∃ z, (0 : Int64) + (c7 - (48 : Int32)).toInt64 = z := ⟨_, rfl⟩
  have t1 : s1.toInt = V / 10000000 % 10 := by rw [accE (A := 0) hs1 rfl ⟨Int.le_refl _, by decide⟩ e7]; exact Int.zero_add _
  refine f_lloadN A30 d9_78 (pc' := 79) rfl rfl ?_
  refine f_ldc2J A30 d9_79 (pc' := 82) rfl (wd hw 91 rfl) ?_
  refine f_lmul A30 d9_82 (pc' := 83) rfl (0 : Int64) (by decide) ?_
  refine f_iload A30 d9_83 (pc' := 85) rfl rfl ?_
  refine f_bipush A30 d9_85 (pc' := 87) rfl 48 rfl ?_
  refine f_isub A30 d9_87 (pc' := 88) rfl (c7 - (48 : Int32)) rfl ?_
  refine f_i2l A30 d9_88 (pc' := 89) rfl ((c7 - (48 : Int32)).toInt64) rfl ?_
  refine f_ladd A30 d9_89 (pc' := 90) rfl s1 hs1 ?_
  refine f_lstoreN A30 d9_90 (pc' := 91) rfl (L' := #[.val (.ref x), .val (.int (6 : Int32)), .val (.long s1), .second, .val (.int (0 : Int32)), .val (.int c7)]) rfl ?_
  refine f_iinc A30 d9_91 (pc' := 94) rfl rfl (1 : Int32) (by decide) (L' := #[.val (.ref x), .val (.int (6 : Int32)), .val (.long s1), .second, .val (.int (1 : Int32)), .val (.int c7)]) rfl ?_
  refine f_goto A30 d9_94 (pc' := 37) (by decide) (by decide) ?_
  refine f_iload A30 d9_37 (pc' := 39) rfl rfl ?_
  refine f_aloadN A30 d9_39 (pc' := 40) rfl rfl rfl ?_
  refine f_callV A30 (a := x) d9_40 (pc' := 43) rfl (wd hw 59 rfl) (wd hw 60 rfl) (nfS A30 (wd hw 62 rfl)) (wd hw 62 rfl) (wd hw 61 rfl) (by decide) F.exa pd0 [] [(.int (1 : Int32))] rfl rfl rfl 1 (Nat.le_of_eq rfl) (payLen (W := 1) A30 hw (wd hw 21 rfl) F O2 P5 (by decide) (by decide)) (kc := 0) (ks := 0) (by decide) (by decide) all0 (fun q => nomatch q) fun v31 T31 h31 L31 A31 K31 q31 => ?_
  obtain ⟨rfl, hh31⟩ := q31
  obtain rfl := hh31.symm
  show Wp pG e below _ T31 (mkF m 43 _ [(.int (9 : Int32)), (.int (1 : Int32))])
  refine f_icN A31 d9_43 (tlt (by decide : (1 : Int32) < (9 : Int32))).2.1 (pc' := 46) rfl ?_
  refine f_aloadN A31 d9_46 (pc' := 47) rfl rfl rfl ?_
  refine f_iload A31 d9_47 (pc' := 49) rfl rfl ?_
  refine f_callV A31 (a := x) d9_49 (pc' := 52) rfl (wd hw 69 rfl) (wd hw 70 rfl) (nfS A31 (wd hw 72 rfl)) (wd hw 72 rfl) (wd hw 71 rfl) (by decide) F.exa pd1 [(.int (1 : Int32))] [] rfl rfl rfl 0 (Nat.le_of_eq rfl) (payCh (W := 0) A31 hw (wd hw 21 rfl) F (fun c hc => (lat c hc).2) O2 P5 O4 rG3 1 (Nat.le_of_ble_eq_true rfl) rfl (by decide) (by decide)) (kc := 0) (ks := 0) (by decide) (by decide) all0 (fun q => nomatch q) fun v32 T32 h32 L32 A32 K32 q32 => ?_
  obtain ⟨rfl, hh32⟩ := q32
  obtain rfl := hh32.symm
  show Wp pG e below _ T32 (mkF m 52 _ [(.int c6)])
  refine f_istore A32 d9_52 (pc' := 54) rfl (L' := #[.val (.ref x), .val (.int (6 : Int32)), .val (.long s1), .second, .val (.int (1 : Int32)), .val (.int c6)]) rfl ?_
  refine f_iload A32 d9_54 (pc' := 56) rfl rfl ?_
  refine f_iloadN A32 d9_56 (pc' := 57) rfl rfl ?_
  refine f_icN A32 d9_57 (feq (by decide : ¬ (1 : Int32) = (6 : Int32))).1 (pc' := 60) rfl ?_
  refine f_iload A32 d9_60 (pc' := 62) rfl rfl ?_
  refine f_bipush A32 d9_62 (pc' := 64) rfl 48 rfl ?_
  refine f_icN A32 d9_64 (flt (ge48 e6)).1 (pc' := 67) rfl ?_
  refine f_iload A32 d9_67 (pc' := 69) rfl rfl ?_
  refine f_bipush A32 d9_69 (pc' := 71) rfl 57 rfl ?_
  refine f_icY A32 d9_71 (flt (le57 e6)).2.2.2 (pc' := 78) (by decide) (by decide) ?_
  obtain ⟨s2, hs2⟩ : ∃ z, (s1 * (10 : Int64)) + (c6 - (48 : Int32)).toInt64 = z := ⟨_, rfl⟩
  have t2 : s2.toInt = V / 1000000 % 100 := by rw [accE (A := (V / 10000000 % 10)) hs2 (mulE t1 (bdK1 _)) (bdK1 _) e6, dvK7 V]; exact stK2 _
  refine f_lloadN A32 d9_78 (pc' := 79) rfl rfl ?_
  refine f_ldc2J A32 d9_79 (pc' := 82) rfl (wd hw 91 rfl) ?_
  refine f_lmul A32 d9_82 (pc' := 83) rfl (s1 * (10 : Int64)) rfl ?_
  refine f_iload A32 d9_83 (pc' := 85) rfl rfl ?_
  refine f_bipush A32 d9_85 (pc' := 87) rfl 48 rfl ?_
  refine f_isub A32 d9_87 (pc' := 88) rfl (c6 - (48 : Int32)) rfl ?_
  refine f_i2l A32 d9_88 (pc' := 89) rfl ((c6 - (48 : Int32)).toInt64) rfl ?_
  refine f_ladd A32 d9_89 (pc' := 90) rfl s2 hs2 ?_
  refine f_lstoreN A32 d9_90 (pc' := 91) rfl (L' := #[.val (.ref x), .val (.int (6 : Int32)), .val (.long s2), .second, .val (.int (1 : Int32)), .val (.int c6)]) rfl ?_
  refine f_iinc A32 d9_91 (pc' := 94) rfl rfl (2 : Int32) (by decide) (L' := #[.val (.ref x), .val (.int (6 : Int32)), .val (.long s2), .second, .val (.int (2 : Int32)), .val (.int c6)]) rfl ?_
  refine f_goto A32 d9_94 (pc' := 37) (by decide) (by decide) ?_
  refine f_iload A32 d9_37 (pc' := 39) rfl rfl ?_
  refine f_aloadN A32 d9_39 (pc' := 40) rfl rfl rfl ?_
  refine f_callV A32 (a := x) d9_40 (pc' := 43) rfl (wd hw 59 rfl) (wd hw 60 rfl) (nfS A32 (wd hw 62 rfl)) (wd hw 62 rfl) (wd hw 61 rfl) (by decide) F.exa pd0 [] [(.int (2 : Int32))] rfl rfl rfl 1 (Nat.le_of_eq rfl) (payLen (W := 1) A32 hw (wd hw 21 rfl) F O2 P5 (by decide) (by decide)) (kc := 0) (ks := 0) (by decide) (by decide) all0 (fun q => nomatch q) fun v33 T33 h33 L33 A33 K33 q33 => ?_
  obtain ⟨rfl, hh33⟩ := q33
  obtain rfl := hh33.symm
  show Wp pG e below _ T33 (mkF m 43 _ [(.int (9 : Int32)), (.int (2 : Int32))])
  refine f_icN A33 d9_43 (tlt (by decide : (2 : Int32) < (9 : Int32))).2.1 (pc' := 46) rfl ?_
  refine f_aloadN A33 d9_46 (pc' := 47) rfl rfl rfl ?_
  refine f_iload A33 d9_47 (pc' := 49) rfl rfl ?_
  refine f_callV A33 (a := x) d9_49 (pc' := 52) rfl (wd hw 69 rfl) (wd hw 70 rfl) (nfS A33 (wd hw 72 rfl)) (wd hw 72 rfl) (wd hw 71 rfl) (by decide) F.exa pd1 [(.int (2 : Int32))] [] rfl rfl rfl 0 (Nat.le_of_eq rfl) (payCh (W := 0) A33 hw (wd hw 21 rfl) F (fun c hc => (lat c hc).2) O2 P5 O4 rG3 2 (Nat.le_of_ble_eq_true rfl) rfl (by decide) (by decide)) (kc := 0) (ks := 0) (by decide) (by decide) all0 (fun q => nomatch q) fun v34 T34 h34 L34 A34 K34 q34 => ?_
  obtain ⟨rfl, hh34⟩ := q34
  obtain rfl := hh34.symm
  show Wp pG e below _ T34 (mkF m 52 _ [(.int c5)])
  refine f_istore A34 d9_52 (pc' := 54) rfl (L' := #[.val (.ref x), .val (.int (6 : Int32)), .val (.long s2), .second, .val (.int (2 : Int32)), .val (.int c5)]) rfl ?_
  refine f_iload A34 d9_54 (pc' := 56) rfl rfl ?_
  refine f_iloadN A34 d9_56 (pc' := 57) rfl rfl ?_
  refine f_icN A34 d9_57 (feq (by decide : ¬ (2 : Int32) = (6 : Int32))).1 (pc' := 60) rfl ?_
  refine f_iload A34 d9_60 (pc' := 62) rfl rfl ?_
  refine f_bipush A34 d9_62 (pc' := 64) rfl 48 rfl ?_
  refine f_icN A34 d9_64 (flt (ge48 e5)).1 (pc' := 67) rfl ?_
  refine f_iload A34 d9_67 (pc' := 69) rfl rfl ?_
  refine f_bipush A34 d9_69 (pc' := 71) rfl 57 rfl ?_
  refine f_icY A34 d9_71 (flt (le57 e5)).2.2.2 (pc' := 78) (by decide) (by decide) ?_
  obtain ⟨s3, hs3⟩ : ∃ z, (s2 * (10 : Int64)) + (c5 - (48 : Int32)).toInt64 = z := ⟨_, rfl⟩
  have t3 : s3.toInt = V / 100000 % 1000 := by rw [accE (A := (V / 1000000 % 100)) hs3 (mulE t2 (bdK2 _)) (bdK2 _) e5, dvK6 V]; exact stK3 _
  refine f_lloadN A34 d9_78 (pc' := 79) rfl rfl ?_
  refine f_ldc2J A34 d9_79 (pc' := 82) rfl (wd hw 91 rfl) ?_
  refine f_lmul A34 d9_82 (pc' := 83) rfl (s2 * (10 : Int64)) rfl ?_
  refine f_iload A34 d9_83 (pc' := 85) rfl rfl ?_
  refine f_bipush A34 d9_85 (pc' := 87) rfl 48 rfl ?_
  refine f_isub A34 d9_87 (pc' := 88) rfl (c5 - (48 : Int32)) rfl ?_
  refine f_i2l A34 d9_88 (pc' := 89) rfl ((c5 - (48 : Int32)).toInt64) rfl ?_
  refine f_ladd A34 d9_89 (pc' := 90) rfl s3 hs3 ?_
  refine f_lstoreN A34 d9_90 (pc' := 91) rfl (L' := #[.val (.ref x), .val (.int (6 : Int32)), .val (.long s3), .second, .val (.int (2 : Int32)), .val (.int c5)]) rfl ?_
  refine f_iinc A34 d9_91 (pc' := 94) rfl rfl (3 : Int32) (by decide) (L' := #[.val (.ref x), .val (.int (6 : Int32)), .val (.long s3), .second, .val (.int (3 : Int32)), .val (.int c5)]) rfl ?_
  refine f_goto A34 d9_94 (pc' := 37) (by decide) (by decide) ?_
  refine f_iload A34 d9_37 (pc' := 39) rfl rfl ?_
  refine f_aloadN A34 d9_39 (pc' := 40) rfl rfl rfl ?_
  refine f_callV A34 (a := x) d9_40 (pc' := 43) rfl (wd hw 59 rfl) (wd hw 60 rfl) (nfS A34 (wd hw 62 rfl)) (wd hw 62 rfl) (wd hw 61 rfl) (by decide) F.exa pd0 [] [(.int (3 : Int32))] rfl rfl rfl 1 (Nat.le_of_eq rfl) (payLen (W := 1) A34 hw (wd hw 21 rfl) F O2 P5 (by decide) (by decide)) (kc := 0) (ks := 0) (by decide) (by decide) all0 (fun q => nomatch q) fun v35 T35 h35 L35 A35 K35 q35 => ?_
  obtain ⟨rfl, hh35⟩ := q35
  obtain rfl := hh35.symm
  show Wp pG e below _ T35 (mkF m 43 _ [(.int (9 : Int32)), (.int (3 : Int32))])
  refine f_icN A35 d9_43 (tlt (by decide : (3 : Int32) < (9 : Int32))).2.1 (pc' := 46) rfl ?_
  refine f_aloadN A35 d9_46 (pc' := 47) rfl rfl rfl ?_
  refine f_iload A35 d9_47 (pc' := 49) rfl rfl ?_
  refine f_callV A35 (a := x) d9_49 (pc' := 52) rfl (wd hw 69 rfl) (wd hw 70 rfl) (nfS A35 (wd hw 72 rfl)) (wd hw 72 rfl) (wd hw 71 rfl) (by decide) F.exa pd1 [(.int (3 : Int32))] [] rfl rfl rfl 0 (Nat.le_of_eq rfl) (payCh (W := 0) A35 hw (wd hw 21 rfl) F (fun c hc => (lat c hc).2) O2 P5 O4 rG3 3 (Nat.le_of_ble_eq_true rfl) rfl (by decide) (by decide)) (kc := 0) (ks := 0) (by decide) (by decide) all0 (fun q => nomatch q) fun v36 T36 h36 L36 A36 K36 q36 => ?_
  obtain ⟨rfl, hh36⟩ := q36
  obtain rfl := hh36.symm
  show Wp pG e below _ T36 (mkF m 52 _ [(.int c4)])
  refine f_istore A36 d9_52 (pc' := 54) rfl (L' := #[.val (.ref x), .val (.int (6 : Int32)), .val (.long s3), .second, .val (.int (3 : Int32)), .val (.int c4)]) rfl ?_
  refine f_iload A36 d9_54 (pc' := 56) rfl rfl ?_
  refine f_iloadN A36 d9_56 (pc' := 57) rfl rfl ?_
  refine f_icN A36 d9_57 (feq (by decide : ¬ (3 : Int32) = (6 : Int32))).1 (pc' := 60) rfl ?_
  refine f_iload A36 d9_60 (pc' := 62) rfl rfl ?_
  refine f_bipush A36 d9_62 (pc' := 64) rfl 48 rfl ?_
  refine f_icN A36 d9_64 (flt (ge48 e4)).1 (pc' := 67) rfl ?_
  refine f_iload A36 d9_67 (pc' := 69) rfl rfl ?_
  refine f_bipush A36 d9_69 (pc' := 71) rfl 57 rfl ?_
  refine f_icY A36 d9_71 (flt (le57 e4)).2.2.2 (pc' := 78) (by decide) (by decide) ?_
  obtain ⟨s4, hs4⟩ : ∃ z, (s3 * (10 : Int64)) + (c4 - (48 : Int32)).toInt64 = z := ⟨_, rfl⟩
  have t4 : s4.toInt = V / 10000 % 10000 := by rw [accE (A := (V / 100000 % 1000)) hs4 (mulE t3 (bdK3 _)) (bdK3 _) e4, dvK5 V]; exact stK4 _
  refine f_lloadN A36 d9_78 (pc' := 79) rfl rfl ?_
  refine f_ldc2J A36 d9_79 (pc' := 82) rfl (wd hw 91 rfl) ?_
  refine f_lmul A36 d9_82 (pc' := 83) rfl (s3 * (10 : Int64)) rfl ?_
  refine f_iload A36 d9_83 (pc' := 85) rfl rfl ?_
  refine f_bipush A36 d9_85 (pc' := 87) rfl 48 rfl ?_
  refine f_isub A36 d9_87 (pc' := 88) rfl (c4 - (48 : Int32)) rfl ?_
  refine f_i2l A36 d9_88 (pc' := 89) rfl ((c4 - (48 : Int32)).toInt64) rfl ?_
  refine f_ladd A36 d9_89 (pc' := 90) rfl s4 hs4 ?_
  refine f_lstoreN A36 d9_90 (pc' := 91) rfl (L' := #[.val (.ref x), .val (.int (6 : Int32)), .val (.long s4), .second, .val (.int (3 : Int32)), .val (.int c4)]) rfl ?_
  refine f_iinc A36 d9_91 (pc' := 94) rfl rfl (4 : Int32) (by decide) (L' := #[.val (.ref x), .val (.int (6 : Int32)), .val (.long s4), .second, .val (.int (4 : Int32)), .val (.int c4)]) rfl ?_
  refine f_goto A36 d9_94 (pc' := 37) (by decide) (by decide) ?_
  refine f_iload A36 d9_37 (pc' := 39) rfl rfl ?_
  refine f_aloadN A36 d9_39 (pc' := 40) rfl rfl rfl ?_
  refine f_callV A36 (a := x) d9_40 (pc' := 43) rfl (wd hw 59 rfl) (wd hw 60 rfl) (nfS A36 (wd hw 62 rfl)) (wd hw 62 rfl) (wd hw 61 rfl) (by decide) F.exa pd0 [] [(.int (4 : Int32))] rfl rfl rfl 1 (Nat.le_of_eq rfl) (payLen (W := 1) A36 hw (wd hw 21 rfl) F O2 P5 (by decide) (by decide)) (kc := 0) (ks := 0) (by decide) (by decide) all0 (fun q => nomatch q) fun v37 T37 h37 L37 A37 K37 q37 => ?_
  obtain ⟨rfl, hh37⟩ := q37
  obtain rfl := hh37.symm
  show Wp pG e below _ T37 (mkF m 43 _ [(.int (9 : Int32)), (.int (4 : Int32))])
  refine f_icN A37 d9_43 (tlt (by decide : (4 : Int32) < (9 : Int32))).2.1 (pc' := 46) rfl ?_
  refine f_aloadN A37 d9_46 (pc' := 47) rfl rfl rfl ?_
  refine f_iload A37 d9_47 (pc' := 49) rfl rfl ?_
  refine f_callV A37 (a := x) d9_49 (pc' := 52) rfl (wd hw 69 rfl) (wd hw 70 rfl) (nfS A37 (wd hw 72 rfl)) (wd hw 72 rfl) (wd hw 71 rfl) (by decide) F.exa pd1 [(.int (4 : Int32))] [] rfl rfl rfl 0 (Nat.le_of_eq rfl) (payCh (W := 0) A37 hw (wd hw 21 rfl) F (fun c hc => (lat c hc).2) O2 P5 O4 rG3 4 (Nat.le_of_ble_eq_true rfl) rfl (by decide) (by decide)) (kc := 0) (ks := 0) (by decide) (by decide) all0 (fun q => nomatch q) fun v38 T38 h38 L38 A38 K38 q38 => ?_
  obtain ⟨rfl, hh38⟩ := q38
  obtain rfl := hh38.symm
  show Wp pG e below _ T38 (mkF m 52 _ [(.int c3)])
  refine f_istore A38 d9_52 (pc' := 54) rfl (L' := #[.val (.ref x), .val (.int (6 : Int32)), .val (.long s4), .second, .val (.int (4 : Int32)), .val (.int c3)]) rfl ?_
  refine f_iload A38 d9_54 (pc' := 56) rfl rfl ?_
  refine f_iloadN A38 d9_56 (pc' := 57) rfl rfl ?_
  refine f_icN A38 d9_57 (feq (by decide : ¬ (4 : Int32) = (6 : Int32))).1 (pc' := 60) rfl ?_
  refine f_iload A38 d9_60 (pc' := 62) rfl rfl ?_
  refine f_bipush A38 d9_62 (pc' := 64) rfl 48 rfl ?_
  refine f_icN A38 d9_64 (flt (ge48 e3)).1 (pc' := 67) rfl ?_
  refine f_iload A38 d9_67 (pc' := 69) rfl rfl ?_
  refine f_bipush A38 d9_69 (pc' := 71) rfl 57 rfl ?_
  refine f_icY A38 d9_71 (flt (le57 e3)).2.2.2 (pc' := 78) (by decide) (by decide) ?_
  obtain ⟨s5, hs5⟩ : ∃ z, (s4 * (10 : Int64)) + (c3 - (48 : Int32)).toInt64 = z := ⟨_, rfl⟩
  have t5 : s5.toInt = V / 1000 % 100000 := by rw [accE (A := (V / 10000 % 10000)) hs5 (mulE t4 (bdK4 _)) (bdK4 _) e3, dvK4 V]; exact stK5 _
  refine f_lloadN A38 d9_78 (pc' := 79) rfl rfl ?_
  refine f_ldc2J A38 d9_79 (pc' := 82) rfl (wd hw 91 rfl) ?_
  refine f_lmul A38 d9_82 (pc' := 83) rfl (s4 * (10 : Int64)) rfl ?_
  refine f_iload A38 d9_83 (pc' := 85) rfl rfl ?_
  refine f_bipush A38 d9_85 (pc' := 87) rfl 48 rfl ?_
  refine f_isub A38 d9_87 (pc' := 88) rfl (c3 - (48 : Int32)) rfl ?_
  refine f_i2l A38 d9_88 (pc' := 89) rfl ((c3 - (48 : Int32)).toInt64) rfl ?_
  refine f_ladd A38 d9_89 (pc' := 90) rfl s5 hs5 ?_
  refine f_lstoreN A38 d9_90 (pc' := 91) rfl (L' := #[.val (.ref x), .val (.int (6 : Int32)), .val (.long s5), .second, .val (.int (4 : Int32)), .val (.int c3)]) rfl ?_
  refine f_iinc A38 d9_91 (pc' := 94) rfl rfl (5 : Int32) (by decide) (L' := #[.val (.ref x), .val (.int (6 : Int32)), .val (.long s5), .second, .val (.int (5 : Int32)), .val (.int c3)]) rfl ?_
  refine f_goto A38 d9_94 (pc' := 37) (by decide) (by decide) ?_
  refine f_iload A38 d9_37 (pc' := 39) rfl rfl ?_
  refine f_aloadN A38 d9_39 (pc' := 40) rfl rfl rfl ?_
  refine f_callV A38 (a := x) d9_40 (pc' := 43) rfl (wd hw 59 rfl) (wd hw 60 rfl) (nfS A38 (wd hw 62 rfl)) (wd hw 62 rfl) (wd hw 61 rfl) (by decide) F.exa pd0 [] [(.int (5 : Int32))] rfl rfl rfl 1 (Nat.le_of_eq rfl) (payLen (W := 1) A38 hw (wd hw 21 rfl) F O2 P5 (by decide) (by decide)) (kc := 0) (ks := 0) (by decide) (by decide) all0 (fun q => nomatch q) fun v39 T39 h39 L39 A39 K39 q39 => ?_
  obtain ⟨rfl, hh39⟩ := q39
  obtain rfl := hh39.symm
  show Wp pG e below _ T39 (mkF m 43 _ [(.int (9 : Int32)), (.int (5 : Int32))])
  refine f_icN A39 d9_43 (tlt (by decide : (5 : Int32) < (9 : Int32))).2.1 (pc' := 46) rfl ?_
  refine f_aloadN A39 d9_46 (pc' := 47) rfl rfl rfl ?_
  refine f_iload A39 d9_47 (pc' := 49) rfl rfl ?_
  refine f_callV A39 (a := x) d9_49 (pc' := 52) rfl (wd hw 69 rfl) (wd hw 70 rfl) (nfS A39 (wd hw 72 rfl)) (wd hw 72 rfl) (wd hw 71 rfl) (by decide) F.exa pd1 [(.int (5 : Int32))] [] rfl rfl rfl 0 (Nat.le_of_eq rfl) (payCh (W := 0) A39 hw (wd hw 21 rfl) F (fun c hc => (lat c hc).2) O2 P5 O4 rG3 5 (Nat.le_of_ble_eq_true rfl) rfl (by decide) (by decide)) (kc := 0) (ks := 0) (by decide) (by decide) all0 (fun q => nomatch q) fun v40 T40 h40 L40 A40 K40 q40 => ?_
  obtain ⟨rfl, hh40⟩ := q40
  obtain rfl := hh40.symm
  show Wp pG e below _ T40 (mkF m 52 _ [(.int c2)])
  refine f_istore A40 d9_52 (pc' := 54) rfl (L' := #[.val (.ref x), .val (.int (6 : Int32)), .val (.long s5), .second, .val (.int (5 : Int32)), .val (.int c2)]) rfl ?_
  refine f_iload A40 d9_54 (pc' := 56) rfl rfl ?_
  refine f_iloadN A40 d9_56 (pc' := 57) rfl rfl ?_
  refine f_icN A40 d9_57 (feq (by decide : ¬ (5 : Int32) = (6 : Int32))).1 (pc' := 60) rfl ?_
  refine f_iload A40 d9_60 (pc' := 62) rfl rfl ?_
  refine f_bipush A40 d9_62 (pc' := 64) rfl 48 rfl ?_
  refine f_icN A40 d9_64 (flt (ge48 e2)).1 (pc' := 67) rfl ?_
  refine f_iload A40 d9_67 (pc' := 69) rfl rfl ?_
  refine f_bipush A40 d9_69 (pc' := 71) rfl 57 rfl ?_
  refine f_icY A40 d9_71 (flt (le57 e2)).2.2.2 (pc' := 78) (by decide) (by decide) ?_
  obtain ⟨s6, hs6⟩ : ∃ z, (s5 * (10 : Int64)) + (c2 - (48 : Int32)).toInt64 = z := ⟨_, rfl⟩
  have t6 : s6.toInt = V / 100 % 1000000 := by rw [accE (A := (V / 1000 % 100000)) hs6 (mulE t5 (bdK5 _)) (bdK5 _) e2, dvK3 V]; exact stK6 _
  refine f_lloadN A40 d9_78 (pc' := 79) rfl rfl ?_
  refine f_ldc2J A40 d9_79 (pc' := 82) rfl (wd hw 91 rfl) ?_
  refine f_lmul A40 d9_82 (pc' := 83) rfl (s5 * (10 : Int64)) rfl ?_
  refine f_iload A40 d9_83 (pc' := 85) rfl rfl ?_
  refine f_bipush A40 d9_85 (pc' := 87) rfl 48 rfl ?_
  refine f_isub A40 d9_87 (pc' := 88) rfl (c2 - (48 : Int32)) rfl ?_
  refine f_i2l A40 d9_88 (pc' := 89) rfl ((c2 - (48 : Int32)).toInt64) rfl ?_
  refine f_ladd A40 d9_89 (pc' := 90) rfl s6 hs6 ?_
  refine f_lstoreN A40 d9_90 (pc' := 91) rfl (L' := #[.val (.ref x), .val (.int (6 : Int32)), .val (.long s6), .second, .val (.int (5 : Int32)), .val (.int c2)]) rfl ?_
  refine f_iinc A40 d9_91 (pc' := 94) rfl rfl (6 : Int32) (by decide) (L' := #[.val (.ref x), .val (.int (6 : Int32)), .val (.long s6), .second, .val (.int (6 : Int32)), .val (.int c2)]) rfl ?_
  refine f_goto A40 d9_94 (pc' := 37) (by decide) (by decide) ?_
  refine f_iload A40 d9_37 (pc' := 39) rfl rfl ?_
  refine f_aloadN A40 d9_39 (pc' := 40) rfl rfl rfl ?_
  refine f_callV A40 (a := x) d9_40 (pc' := 43) rfl (wd hw 59 rfl) (wd hw 60 rfl) (nfS A40 (wd hw 62 rfl)) (wd hw 62 rfl) (wd hw 61 rfl) (by decide) F.exa pd0 [] [(.int (6 : Int32))] rfl rfl rfl 1 (Nat.le_of_eq rfl) (payLen (W := 1) A40 hw (wd hw 21 rfl) F O2 P5 (by decide) (by decide)) (kc := 0) (ks := 0) (by decide) (by decide) all0 (fun q => nomatch q) fun v41 T41 h41 L41 A41 K41 q41 => ?_
  obtain ⟨rfl, hh41⟩ := q41
  obtain rfl := hh41.symm
  show Wp pG e below _ T41 (mkF m 43 _ [(.int (9 : Int32)), (.int (6 : Int32))])
  refine f_icN A41 d9_43 (tlt (by decide : (6 : Int32) < (9 : Int32))).2.1 (pc' := 46) rfl ?_
  refine f_aloadN A41 d9_46 (pc' := 47) rfl rfl rfl ?_
  refine f_iload A41 d9_47 (pc' := 49) rfl rfl ?_
  refine f_callV A41 (a := x) d9_49 (pc' := 52) rfl (wd hw 69 rfl) (wd hw 70 rfl) (nfS A41 (wd hw 72 rfl)) (wd hw 72 rfl) (wd hw 71 rfl) (by decide) F.exa pd1 [(.int (6 : Int32))] [] rfl rfl rfl 0 (Nat.le_of_eq rfl) (payCh (W := 0) A41 hw (wd hw 21 rfl) F (fun c hc => (lat c hc).2) O2 P5 O4 rG3 6 (Nat.le_of_ble_eq_true rfl) rfl (by decide) (by decide)) (kc := 0) (ks := 0) (by decide) (by decide) all0 (fun q => nomatch q) fun v42 T42 h42 L42 A42 K42 q42 => ?_
  obtain ⟨rfl, hh42⟩ := q42
  obtain rfl := hh42.symm
  show Wp pG e below _ T42 (mkF m 52 _ [(.int (46 : Int32))])
  refine f_istore A42 d9_52 (pc' := 54) rfl (L' := #[.val (.ref x), .val (.int (6 : Int32)), .val (.long s6), .second, .val (.int (6 : Int32)), .val (.int (46 : Int32))]) rfl ?_
  refine f_iload A42 d9_54 (pc' := 56) rfl rfl ?_
  refine f_iloadN A42 d9_56 (pc' := 57) rfl rfl ?_
  refine f_icY A42 d9_57 (teq (by decide : (6 : Int32) = (6 : Int32))).1 (pc' := 91) (by decide) (by decide) ?_
  refine f_iinc A42 d9_91 (pc' := 94) rfl rfl (7 : Int32) (by decide) (L' := #[.val (.ref x), .val (.int (6 : Int32)), .val (.long s6), .second, .val (.int (7 : Int32)), .val (.int (46 : Int32))]) rfl ?_
  refine f_goto A42 d9_94 (pc' := 37) (by decide) (by decide) ?_
  refine f_iload A42 d9_37 (pc' := 39) rfl rfl ?_
  refine f_aloadN A42 d9_39 (pc' := 40) rfl rfl rfl ?_
  refine f_callV A42 (a := x) d9_40 (pc' := 43) rfl (wd hw 59 rfl) (wd hw 60 rfl) (nfS A42 (wd hw 62 rfl)) (wd hw 62 rfl) (wd hw 61 rfl) (by decide) F.exa pd0 [] [(.int (7 : Int32))] rfl rfl rfl 1 (Nat.le_of_eq rfl) (payLen (W := 1) A42 hw (wd hw 21 rfl) F O2 P5 (by decide) (by decide)) (kc := 0) (ks := 0) (by decide) (by decide) all0 (fun q => nomatch q) fun v43 T43 h43 L43 A43 K43 q43 => ?_
  obtain ⟨rfl, hh43⟩ := q43
  obtain rfl := hh43.symm
  show Wp pG e below _ T43 (mkF m 43 _ [(.int (9 : Int32)), (.int (7 : Int32))])
  refine f_icN A43 d9_43 (tlt (by decide : (7 : Int32) < (9 : Int32))).2.1 (pc' := 46) rfl ?_
  refine f_aloadN A43 d9_46 (pc' := 47) rfl rfl rfl ?_
  refine f_iload A43 d9_47 (pc' := 49) rfl rfl ?_
  refine f_callV A43 (a := x) d9_49 (pc' := 52) rfl (wd hw 69 rfl) (wd hw 70 rfl) (nfS A43 (wd hw 72 rfl)) (wd hw 72 rfl) (wd hw 71 rfl) (by decide) F.exa pd1 [(.int (7 : Int32))] [] rfl rfl rfl 0 (Nat.le_of_eq rfl) (payCh (W := 0) A43 hw (wd hw 21 rfl) F (fun c hc => (lat c hc).2) O2 P5 O4 rG3 7 (Nat.le_of_ble_eq_true rfl) rfl (by decide) (by decide)) (kc := 0) (ks := 0) (by decide) (by decide) all0 (fun q => nomatch q) fun v44 T44 h44 L44 A44 K44 q44 => ?_
  obtain ⟨rfl, hh44⟩ := q44
  obtain rfl := hh44.symm
  show Wp pG e below _ T44 (mkF m 52 _ [(.int c1)])
  refine f_istore A44 d9_52 (pc' := 54) rfl (L' := #[.val (.ref x), .val (.int (6 : Int32)), .val (.long s6), .second, .val (.int (7 : Int32)), .val (.int c1)]) rfl ?_
  refine f_iload A44 d9_54 (pc' := 56) rfl rfl ?_
  refine f_iloadN A44 d9_56 (pc' := 57) rfl rfl ?_
  refine f_icN A44 d9_57 (feq (by decide : ¬ (7 : Int32) = (6 : Int32))).1 (pc' := 60) rfl ?_
  refine f_iload A44 d9_60 (pc' := 62) rfl rfl ?_
  refine f_bipush A44 d9_62 (pc' := 64) rfl 48 rfl ?_
  refine f_icN A44 d9_64 (flt (ge48 e1)).1 (pc' := 67) rfl ?_
  refine f_iload A44 d9_67 (pc' := 69) rfl rfl ?_
  refine f_bipush A44 d9_69 (pc' := 71) rfl 57 rfl ?_
  refine f_icY A44 d9_71 (flt (le57 e1)).2.2.2 (pc' := 78) (by decide) (by decide) ?_
  obtain ⟨s7, hs7⟩ : ∃ z, (s6 * (10 : Int64)) + (c1 - (48 : Int32)).toInt64 = z := ⟨_, rfl⟩
  have t7 : s7.toInt = V / 10 % 10000000 := by rw [accE (A := (V / 100 % 1000000)) hs7 (mulE t6 (bdK6 _)) (bdK6 _) e1, dvK2 V]; exact stK7 _
  refine f_lloadN A44 d9_78 (pc' := 79) rfl rfl ?_
  refine f_ldc2J A44 d9_79 (pc' := 82) rfl (wd hw 91 rfl) ?_
  refine f_lmul A44 d9_82 (pc' := 83) rfl (s6 * (10 : Int64)) rfl ?_
  refine f_iload A44 d9_83 (pc' := 85) rfl rfl ?_
  refine f_bipush A44 d9_85 (pc' := 87) rfl 48 rfl ?_
  refine f_isub A44 d9_87 (pc' := 88) rfl (c1 - (48 : Int32)) rfl ?_
  refine f_i2l A44 d9_88 (pc' := 89) rfl ((c1 - (48 : Int32)).toInt64) rfl ?_
  refine f_ladd A44 d9_89 (pc' := 90) rfl s7 hs7 ?_
  refine f_lstoreN A44 d9_90 (pc' := 91) rfl (L' := #[.val (.ref x), .val (.int (6 : Int32)), .val (.long s7), .second, .val (.int (7 : Int32)), .val (.int c1)]) rfl ?_
  refine f_iinc A44 d9_91 (pc' := 94) rfl rfl (8 : Int32) (by decide) (L' := #[.val (.ref x), .val (.int (6 : Int32)), .val (.long s7), .second, .val (.int (8 : Int32)), .val (.int c1)]) rfl ?_
  refine f_goto A44 d9_94 (pc' := 37) (by decide) (by decide) ?_
  refine f_iload A44 d9_37 (pc' := 39) rfl rfl ?_
  refine f_aloadN A44 d9_39 (pc' := 40) rfl rfl rfl ?_
  refine f_callV A44 (a := x) d9_40 (pc' := 43) rfl (wd hw 59 rfl) (wd hw 60 rfl) (nfS A44 (wd hw 62 rfl)) (wd hw 62 rfl) (wd hw 61 rfl) (by decide) F.exa pd0 [] [(.int (8 : Int32))] rfl rfl rfl 1 (Nat.le_of_eq rfl) (payLen (W := 1) A44 hw (wd hw 21 rfl) F O2 P5 (by decide) (by decide)) (kc := 0) (ks := 0) (by decide) (by decide) all0 (fun q => nomatch q) fun v45 T45 h45 L45 A45 K45 q45 => ?_
  obtain ⟨rfl, hh45⟩ := q45
  obtain rfl := hh45.symm
  show Wp pG e below _ T45 (mkF m 43 _ [(.int (9 : Int32)), (.int (8 : Int32))])
  refine f_icN A45 d9_43 (tlt (by decide : (8 : Int32) < (9 : Int32))).2.1 (pc' := 46) rfl ?_
  refine f_aloadN A45 d9_46 (pc' := 47) rfl rfl rfl ?_
  refine f_iload A45 d9_47 (pc' := 49) rfl rfl ?_
  refine f_callV A45 (a := x) d9_49 (pc' := 52) rfl (wd hw 69 rfl) (wd hw 70 rfl) (nfS A45 (wd hw 72 rfl)) (wd hw 72 rfl) (wd hw 71 rfl) (by decide) F.exa pd1 [(.int (8 : Int32))] [] rfl rfl rfl 0 (Nat.le_of_eq rfl) (payCh (W := 0) A45 hw (wd hw 21 rfl) F (fun c hc => (lat c hc).2) O2 P5 O4 rG3 8 (Nat.le_of_ble_eq_true rfl) rfl (by decide) (by decide)) (kc := 0) (ks := 0) (by decide) (by decide) all0 (fun q => nomatch q) fun v46 T46 h46 L46 A46 K46 q46 => ?_
  obtain ⟨rfl, hh46⟩ := q46
  obtain rfl := hh46.symm
  show Wp pG e below _ T46 (mkF m 52 _ [(.int c0)])
  refine f_istore A46 d9_52 (pc' := 54) rfl (L' := #[.val (.ref x), .val (.int (6 : Int32)), .val (.long s7), .second, .val (.int (8 : Int32)), .val (.int c0)]) rfl ?_
  refine f_iload A46 d9_54 (pc' := 56) rfl rfl ?_
  refine f_iloadN A46 d9_56 (pc' := 57) rfl rfl ?_
  refine f_icN A46 d9_57 (feq (by decide : ¬ (8 : Int32) = (6 : Int32))).1 (pc' := 60) rfl ?_
  refine f_iload A46 d9_60 (pc' := 62) rfl rfl ?_
  refine f_bipush A46 d9_62 (pc' := 64) rfl 48 rfl ?_
  refine f_icN A46 d9_64 (flt (ge48 e0)).1 (pc' := 67) rfl ?_
  refine f_iload A46 d9_67 (pc' := 69) rfl rfl ?_
  refine f_bipush A46 d9_69 (pc' := 71) rfl 57 rfl ?_
  refine f_icY A46 d9_71 (flt (le57 e0)).2.2.2 (pc' := 78) (by decide) (by decide) ?_
  obtain ⟨s8, hs8⟩ : ∃ z, (s7 * (10 : Int64)) + (c0 - (48 : Int32)).toInt64 = z := ⟨_, rfl⟩
  have t8 : s8.toInt = V / 1 % 100000000 := by rw [accE (A := (V / 10 % 10000000)) hs8 (mulE t7 (bdK7 _)) (bdK7 _) e0, dvK1 V]; exact stK8 _
  refine f_lloadN A46 d9_78 (pc' := 79) rfl rfl ?_
  refine f_ldc2J A46 d9_79 (pc' := 82) rfl (wd hw 91 rfl) ?_
  refine f_lmul A46 d9_82 (pc' := 83) rfl (s7 * (10 : Int64)) rfl ?_
  refine f_iload A46 d9_83 (pc' := 85) rfl rfl ?_
  refine f_bipush A46 d9_85 (pc' := 87) rfl 48 rfl ?_
  refine f_isub A46 d9_87 (pc' := 88) rfl (c0 - (48 : Int32)) rfl ?_
  refine f_i2l A46 d9_88 (pc' := 89) rfl ((c0 - (48 : Int32)).toInt64) rfl ?_
  refine f_ladd A46 d9_89 (pc' := 90) rfl s8 hs8 ?_
  refine f_lstoreN A46 d9_90 (pc' := 91) rfl (L' := #[.val (.ref x), .val (.int (6 : Int32)), .val (.long s8), .second, .val (.int (8 : Int32)), .val (.int c0)]) rfl ?_
  refine f_iinc A46 d9_91 (pc' := 94) rfl rfl (9 : Int32) (by decide) (L' := #[.val (.ref x), .val (.int (6 : Int32)), .val (.long s8), .second, .val (.int (9 : Int32)), .val (.int c0)]) rfl ?_
  refine f_goto A46 d9_94 (pc' := 37) (by decide) (by decide) ?_
  refine f_iload A46 d9_37 (pc' := 39) rfl rfl ?_
  refine f_aloadN A46 d9_39 (pc' := 40) rfl rfl rfl ?_
  refine f_callV A46 (a := x) d9_40 (pc' := 43) rfl (wd hw 59 rfl) (wd hw 60 rfl) (nfS A46 (wd hw 62 rfl)) (wd hw 62 rfl) (wd hw 61 rfl) (by decide) F.exa pd0 [] [(.int (9 : Int32))] rfl rfl rfl 1 (Nat.le_of_eq rfl) (payLen (W := 1) A46 hw (wd hw 21 rfl) F O2 P5 (by decide) (by decide)) (kc := 0) (ks := 0) (by decide) (by decide) all0 (fun q => nomatch q) fun v47 T47 h47 L47 A47 K47 q47 => ?_
  obtain ⟨rfl, hh47⟩ := q47
  obtain rfl := hh47.symm
  show Wp pG e below _ T47 (mkF m 43 _ [(.int (9 : Int32)), (.int (9 : Int32))])
  refine f_icY A47 d9_43 (flt (by decide : ¬ (9 : Int32) < (9 : Int32))).2.1 (pc' := 97) (by decide) (by decide) ?_
  refine f_lloadN A47 d9_97 (pc' := 98) rfl rfl ?_
  exact f_retJN A47 hlk hret d9_98 (by decide) (by decide) K0 ⟨s8, rfl, by rw [t8, Int.ediv_one], rfl⟩
set_option maxRecDepth 65536 in
set_option maxHeartbeats 40000000 in
theorem m_nn9 (l : Launch) (Z : State) (a0 : Array Value) (hw : ∀ d ∈ tables_1, d.before a0 Z = true) (u x t : Addr) (V : Int) (c7 c6 c5 c4 c3 c2 c1 c0 : Int32) (zc : Int32) (O2 : Sta Z Z.heap "java/lang/String" "COMPACT_STRINGS" "Z" (.int zc)) (P5 : ¬ zc = 0) (fm : Value) (O4 : Sta Z Z.heap "jdk/internal/util/Preconditions" "SIOOBE_FORMATTER" "Ljava/util/function/BiFunction;" fm) (rG3 : fm.isRef = true) (h0 : Heap) (n0 : Nat) (ho : Old Z n0 h0) (F : Str Z h0 x t [c7, c6, c5, c4, c3, c2, (46 : Int32), c1, c0]) (lat : ∀ c ∈ [c7, c6, c5, c4, c3, c2, (46 : Int32), c1, c0], ¬ c < 0 ∧ ¬ (255 : Int32) < c) (e7 : c7.toInt = 48 + V / 10000000 % 10) (e6 : c6.toInt = 48 + V / 1000000 % 10) (e5 : c5.toInt = 48 + V / 100000 % 10) (e4 : c4.toInt = 48 + V / 10000 % 10) (e3 : c3.toInt = 48 + V / 1000 % 10) (e2 : c2.toInt = 48 + V / 100 % 10) (e1 : c1.toInt = 48 + V / 10 % 10) (e0 : c0.toInt = 48 + V / 1 % 10) :
    CN l (⟨"com/example/quittance/quittance/Money", "nonNegative", "(Ljava/lang/String;Ljava/lang/String;)J"⟩ : MethodName) prog_6_method_3_code 4 (some .long) [] ({ frames := 6, cells := 0, slots := 0, locals := 90 } : Room) Z n0 h0 #[(.ref u), (.ref x)] [] (fun v h => ∃ r : Int64, v = some (.long r) ∧ r.toInt = V % 100000000 ∧ h = h0) := by
  refine CN.walk (plainFor_of_name pn1) ho (L0 := #[.val (.ref u), .val (.ref x), .unset, .unset]) (fun m => rfl) ?_
  intro pG e s m below meth cO T hlk hret hnm A0
  have K0 : Keep h0 h0 [] := Keep.refl _ _
  refine f_aloadN A0 d8_0 (pc' := 1) rfl rfl rfl ?_
  refine f_callS A0 d8_1 (pc' := 4) rfl (wd hw 56 rfl) (wd hw 57 rfl) (wd hw 54 rfl) (wd hw 58 rfl) (by decide) pd2 [(.ref x)] [] rfl rfl rfl 0 (Nat.le_of_eq rfl) (CN.pay (W := 0) A0 (m_cents9 l Z a0 hw x t V c7 c6 c5 c4 c3 c2 c1 c0 zc O2 P5 fm O4 rG3 h0 n0 A0.old F lat e7 e6 e5 e4 e3 e2 e1 e0) (wd hw 58 rfl) (wd hw 54 rfl) (by decide) (by decide)) (kc := 0) (ks := 0) (by decide) (by decide) all0 (fun q => nomatch q) fun v48 T48 h48 L48 A48 K48 q48 => ?_
  obtain ⟨r48, rfl, hr48, hh48⟩ := q48
  obtain rfl := hh48.symm
  show Wp pG e below _ T48 (mkF m 4 _ [(.long r48)])
  refine f_lstoreN A48 d8_4 (pc' := 5) rfl (L' := #[.val (.ref u), .val (.ref x), .val (.long r48), .second]) rfl ?_
  refine f_lloadN A48 d8_5 (pc' := 6) rfl rfl ?_
  refine f_lconst A48 d8_6 (pc' := 7) rfl 0 rfl ?_
  refine f_lcmp A48 d8_7 (pc' := 8) rfl (lcmpW r48 (0 : Int64)) rfl ?_
  refine f_ifN A48 d8_8 ((if0 _ _).trans (flt (nneg (by decide) hr48)).1) (pc' := 11) rfl ?_
  refine f_lloadN A48 d8_11 (pc' := 12) rfl rfl ?_
  exact f_retJN A48 hlk hret d8_12 (by decide) (by decide) K0 ⟨r48, rfl, hr48, rfl⟩
set_option maxRecDepth 65536 in
set_option maxHeartbeats 40000000 in
theorem m_cents15 (l : Launch) (Z : State) (a0 : Array Value) (hw : ∀ d ∈ tables_1, d.before a0 Z = true) (x t : Addr) (V : Int) (c13 c12 c11 c10 c9 c8 c7 c6 c5 c4 c3 c2 c1 c0 : Int32) (zc : Int32) (O2 : Sta Z Z.heap "java/lang/String" "COMPACT_STRINGS" "Z" (.int zc)) (P5 : ¬ zc = 0) (fm : Value) (O4 : Sta Z Z.heap "jdk/internal/util/Preconditions" "SIOOBE_FORMATTER" "Ljava/util/function/BiFunction;" fm) (rG3 : fm.isRef = true) (h0 : Heap) (n0 : Nat) (ho : Old Z n0 h0) (F : Str Z h0 x t [c13, c12, c11, c10, c9, c8, c7, c6, c5, c4, c3, c2, (46 : Int32), c1, c0]) (lat : ∀ c ∈ [c13, c12, c11, c10, c9, c8, c7, c6, c5, c4, c3, c2, (46 : Int32), c1, c0], ¬ c < 0 ∧ ¬ (255 : Int32) < c) (e13 : c13.toInt = 48 + V / 10000000000000 % 10) (e12 : c12.toInt = 48 + V / 1000000000000 % 10) (e11 : c11.toInt = 48 + V / 100000000000 % 10) (e10 : c10.toInt = 48 + V / 10000000000 % 10) (e9 : c9.toInt = 48 + V / 1000000000 % 10) (e8 : c8.toInt = 48 + V / 100000000 % 10) (e7 : c7.toInt = 48 + V / 10000000 % 10) (e6 : c6.toInt = 48 + V / 1000000 % 10) (e5 : c5.toInt = 48 + V / 100000 % 10) (e4 : c4.toInt = 48 + V / 10000 % 10) (e3 : c3.toInt = 48 + V / 1000 % 10) (e2 : c2.toInt = 48 + V / 100 % 10) (e1 : c1.toInt = 48 + V / 10 % 10) (e0 : c0.toInt = 48 + V / 1 % 10) :
    CN l (⟨"com/example/quittance/quittance/Money", "cents", "(Ljava/lang/String;)J"⟩ : MethodName) prog_6_method_5_code 6 (some .long) [] ({ frames := 5, cells := 0, slots := 0, locals := 70 } : Room) Z n0 h0 #[(.ref x)] [] (fun v h => ∃ r : Int64, v = some (.long r) ∧ r.toInt = V % 100000000000000 ∧ h = h0) := by
  refine CN.walk (plainFor_of_name pn1) ho (L0 := #[.val (.ref x), .unset, .unset, .unset, .unset, .unset]) (fun m => rfl) ?_
  intro pG e s m below meth cO T hlk hret hnm A0
  have K0 : Keep h0 h0 [] := Keep.refl _ _
  refine f_aloadN A0 d9_0 (pc' := 1) rfl rfl rfl ?_
  refine f_callV A0 (a := x) d9_1 (pc' := 4) rfl (wd hw 59 rfl) (wd hw 60 rfl) (nfS A0 (wd hw 62 rfl)) (wd hw 62 rfl) (wd hw 61 rfl) (by decide) F.exa pd0 [] [] rfl rfl rfl 0 (Nat.le_of_eq rfl) (payLen (W := 0) A0 hw (wd hw 21 rfl) F O2 P5 (by decide) (by decide)) (kc := 0) (ks := 0) (by decide) (by decide) all0 (fun q => nomatch q) fun v49 T49 h49 L49 A49 K49 q49 => ?_
  obtain ⟨rfl, hh49⟩ := q49
  obtain rfl := hh49.symm
  show Wp pG e below _ T49 (mkF m 4 _ [(.int (15 : Int32))])
  refine f_iconst A49 d9_4 (pc' := 5) rfl 3 rfl ?_
  refine f_isub A49 d9_5 (pc' := 6) rfl (12 : Int32) (by decide) ?_
  refine f_istoreN A49 d9_6 (pc' := 7) rfl (L' := #[.val (.ref x), .val (.int (12 : Int32)), .unset, .unset, .unset, .unset]) rfl ?_
  refine f_iloadN A49 d9_7 (pc' := 8) rfl rfl ?_
  refine f_iconst A49 d9_8 (pc' := 9) rfl 1 rfl ?_
  refine f_icN A49 d9_9 (flt (by decide : ¬ (12 : Int32) < (1 : Int32))).1 (pc' := 12) rfl ?_
  refine f_iloadN A49 d9_12 (pc' := 13) rfl rfl ?_
  refine f_bipush A49 d9_13 (pc' := 15) rfl 12 rfl ?_
  refine f_icN A49 d9_15 (flt (by decide : ¬ (12 : Int32) < (12 : Int32))).2.2.1 (pc' := 18) rfl ?_
  refine f_aloadN A49 d9_18 (pc' := 19) rfl rfl rfl ?_
  refine f_iloadN A49 d9_19 (pc' := 20) rfl rfl ?_
  refine f_callV A49 (a := x) d9_20 (pc' := 23) rfl (wd hw 69 rfl) (wd hw 70 rfl) (nfS A49 (wd hw 72 rfl)) (wd hw 72 rfl) (wd hw 71 rfl) (by decide) F.exa pd1 [(.int (12 : Int32))] [] rfl rfl rfl 0 (Nat.le_of_eq rfl) (payCh (W := 0) A49 hw (wd hw 21 rfl) F (fun c hc => (lat c hc).2) O2 P5 O4 rG3 12 (Nat.le_of_ble_eq_true rfl) rfl (by decide) (by decide)) (kc := 0) (ks := 0) (by decide) (by decide) all0 (fun q => nomatch q) fun v50 T50 h50 L50 A50 K50 q50 => ?_
  obtain ⟨rfl, hh50⟩ := q50
  obtain rfl := hh50.symm
  show Wp pG e below _ T50 (mkF m 23 _ [(.int (46 : Int32))])
  refine f_bipush A50 d9_23 (pc' := 25) rfl 46 rfl ?_
  refine f_icY A50 d9_25 (teq (by decide : (46 : Int32) = (46 : Int32))).1 (pc' := 32) (by decide) (by decide) ?_
  refine f_lconst A50 d9_32 (pc' := 33) rfl 0 rfl ?_
  refine f_lstoreN A50 d9_33 (pc' := 34) rfl (L' := #[.val (.ref x), .val (.int (12 : Int32)), .val (.long (0 : Int64)), .second, .unset, .unset]) rfl ?_
  refine f_iconst A50 d9_34 (pc' := 35) rfl 0 rfl ?_
  refine f_istore A50 d9_35 (pc' := 37) rfl (L' := #[.val (.ref x), .val (.int (12 : Int32)), .val (.long (0 : Int64)), .second, .val (.int (0 : Int32)), .unset]) rfl ?_
  refine f_iload A50 d9_37 (pc' := 39) rfl rfl ?_
  refine f_aloadN A50 d9_39 (pc' := 40) rfl rfl rfl ?_
  refine f_callV A50 (a := x) d9_40 (pc' := 43) rfl (wd hw 59 rfl) (wd hw 60 rfl) (nfS A50 (wd hw 62 rfl)) (wd hw 62 rfl) (wd hw 61 rfl) (by decide) F.exa pd0 [] [(.int (0 : Int32))] rfl rfl rfl 1 (Nat.le_of_eq rfl) (payLen (W := 1) A50 hw (wd hw 21 rfl) F O2 P5 (by decide) (by decide)) (kc := 0) (ks := 0) (by decide) (by decide) all0 (fun q => nomatch q) fun v51 T51 h51 L51 A51 K51 q51 => ?_
  obtain ⟨rfl, hh51⟩ := q51
  obtain rfl := hh51.symm
  show Wp pG e below _ T51 (mkF m 43 _ [(.int (15 : Int32)), (.int (0 : Int32))])
  refine f_icN A51 d9_43 (tlt (by decide : (0 : Int32) < (15 : Int32))).2.1 (pc' := 46) rfl ?_
  refine f_aloadN A51 d9_46 (pc' := 47) rfl rfl rfl ?_
  refine f_iload A51 d9_47 (pc' := 49) rfl rfl ?_
  refine f_callV A51 (a := x) d9_49 (pc' := 52) rfl (wd hw 69 rfl) (wd hw 70 rfl) (nfS A51 (wd hw 72 rfl)) (wd hw 72 rfl) (wd hw 71 rfl) (by decide) F.exa pd1 [(.int (0 : Int32))] [] rfl rfl rfl 0 (Nat.le_of_eq rfl) (payCh (W := 0) A51 hw (wd hw 21 rfl) F (fun c hc => (lat c hc).2) O2 P5 O4 rG3 0 (Nat.le_of_ble_eq_true rfl) rfl (by decide) (by decide)) (kc := 0) (ks := 0) (by decide) (by decide) all0 (fun q => nomatch q) fun v52 T52 h52 L52 A52 K52 q52 => ?_
  obtain ⟨rfl, hh52⟩ := q52
  obtain rfl := hh52.symm
  show Wp pG e below _ T52 (mkF m 52 _ [(.int c13)])
  refine f_istore A52 d9_52 (pc' := 54) rfl (L' := #[.val (.ref x), .val (.int (12 : Int32)), .val (.long (0 : Int64)), .second, .val (.int (0 : Int32)), .val (.int c13)]) rfl ?_
  refine f_iload A52 d9_54 (pc' := 56) rfl rfl ?_
  refine f_iloadN A52 d9_56 (pc' := 57) rfl rfl ?_
  refine f_icN A52 d9_57 (feq (by decide : ¬ (0 : Int32) = (12 : Int32))).1 (pc' := 60) rfl ?_
  refine f_iload A52 d9_60 (pc' := 62) rfl rfl ?_
  refine f_bipush A52 d9_62 (pc' := 64) rfl 48 rfl ?_
  refine f_icN A52 d9_64 (flt (ge48 e13)).1 (pc' := 67) rfl ?_
  refine f_iload A52 d9_67 (pc' := 69) rfl rfl ?_
  refine f_bipush A52 d9_69 (pc' := 71) rfl 57 rfl ?_
  refine f_icY A52 d9_71 (flt (le57 e13)).2.2.2 (pc' := 78) (by decide) (by decide) ?_
  obtain ⟨s1, hs1⟩ : ∃ z, (0 : Int64) + (c13 - (48 : Int32)).toInt64 = z := ⟨_, rfl⟩
  have t1 : s1.toInt = V / 10000000000000 % 10 := by rw [accE (A := 0) hs1 rfl ⟨Int.le_refl _, by decide⟩ e13]; exact Int.zero_add _
  refine f_lloadN A52 d9_78 (pc' := 79) rfl rfl ?_
  refine f_ldc2J A52 d9_79 (pc' := 82) rfl (wd hw 91 rfl) ?_
  refine f_lmul A52 d9_82 (pc' := 83) rfl (0 : Int64) (by decide) ?_
  refine f_iload A52 d9_83 (pc' := 85) rfl rfl ?_
  refine f_bipush A52 d9_85 (pc' := 87) rfl 48 rfl ?_
  refine f_isub A52 d9_87 (pc' := 88) rfl (c13 - (48 : Int32)) rfl ?_
  refine f_i2l A52 d9_88 (pc' := 89) rfl ((c13 - (48 : Int32)).toInt64) rfl ?_
  refine f_ladd A52 d9_89 (pc' := 90) rfl s1 hs1 ?_
  refine f_lstoreN A52 d9_90 (pc' := 91) rfl (L' := #[.val (.ref x), .val (.int (12 : Int32)), .val (.long s1), .second, .val (.int (0 : Int32)), .val (.int c13)]) rfl ?_
  refine f_iinc A52 d9_91 (pc' := 94) rfl rfl (1 : Int32) (by decide) (L' := #[.val (.ref x), .val (.int (12 : Int32)), .val (.long s1), .second, .val (.int (1 : Int32)), .val (.int c13)]) rfl ?_
  refine f_goto A52 d9_94 (pc' := 37) (by decide) (by decide) ?_
  refine f_iload A52 d9_37 (pc' := 39) rfl rfl ?_
  refine f_aloadN A52 d9_39 (pc' := 40) rfl rfl rfl ?_
  refine f_callV A52 (a := x) d9_40 (pc' := 43) rfl (wd hw 59 rfl) (wd hw 60 rfl) (nfS A52 (wd hw 62 rfl)) (wd hw 62 rfl) (wd hw 61 rfl) (by decide) F.exa pd0 [] [(.int (1 : Int32))] rfl rfl rfl 1 (Nat.le_of_eq rfl) (payLen (W := 1) A52 hw (wd hw 21 rfl) F O2 P5 (by decide) (by decide)) (kc := 0) (ks := 0) (by decide) (by decide) all0 (fun q => nomatch q) fun v53 T53 h53 L53 A53 K53 q53 => ?_
  obtain ⟨rfl, hh53⟩ := q53
  obtain rfl := hh53.symm
  show Wp pG e below _ T53 (mkF m 43 _ [(.int (15 : Int32)), (.int (1 : Int32))])
  refine f_icN A53 d9_43 (tlt (by decide : (1 : Int32) < (15 : Int32))).2.1 (pc' := 46) rfl ?_
  refine f_aloadN A53 d9_46 (pc' := 47) rfl rfl rfl ?_
  refine f_iload A53 d9_47 (pc' := 49) rfl rfl ?_
  refine f_callV A53 (a := x) d9_49 (pc' := 52) rfl (wd hw 69 rfl) (wd hw 70 rfl) (nfS A53 (wd hw 72 rfl)) (wd hw 72 rfl) (wd hw 71 rfl) (by decide) F.exa pd1 [(.int (1 : Int32))] [] rfl rfl rfl 0 (Nat.le_of_eq rfl) (payCh (W := 0) A53 hw (wd hw 21 rfl) F (fun c hc => (lat c hc).2) O2 P5 O4 rG3 1 (Nat.le_of_ble_eq_true rfl) rfl (by decide) (by decide)) (kc := 0) (ks := 0) (by decide) (by decide) all0 (fun q => nomatch q) fun v54 T54 h54 L54 A54 K54 q54 => ?_
  obtain ⟨rfl, hh54⟩ := q54
  obtain rfl := hh54.symm
  show Wp pG e below _ T54 (mkF m 52 _ [(.int c12)])
  refine f_istore A54 d9_52 (pc' := 54) rfl (L' := #[.val (.ref x), .val (.int (12 : Int32)), .val (.long s1), .second, .val (.int (1 : Int32)), .val (.int c12)]) rfl ?_
  refine f_iload A54 d9_54 (pc' := 56) rfl rfl ?_
  refine f_iloadN A54 d9_56 (pc' := 57) rfl rfl ?_
  refine f_icN A54 d9_57 (feq (by decide : ¬ (1 : Int32) = (12 : Int32))).1 (pc' := 60) rfl ?_
  refine f_iload A54 d9_60 (pc' := 62) rfl rfl ?_
  refine f_bipush A54 d9_62 (pc' := 64) rfl 48 rfl ?_
  refine f_icN A54 d9_64 (flt (ge48 e12)).1 (pc' := 67) rfl ?_
  refine f_iload A54 d9_67 (pc' := 69) rfl rfl ?_
  refine f_bipush A54 d9_69 (pc' := 71) rfl 57 rfl ?_
  refine f_icY A54 d9_71 (flt (le57 e12)).2.2.2 (pc' := 78) (by decide) (by decide) ?_
  obtain ⟨s2, hs2⟩ : ∃ z, (s1 * (10 : Int64)) + (c12 - (48 : Int32)).toInt64 = z := ⟨_, rfl⟩
  have t2 : s2.toInt = V / 1000000000000 % 100 := by rw [accE (A := (V / 10000000000000 % 10)) hs2 (mulE t1 (bdK1 _)) (bdK1 _) e12, dvK13 V]; exact stK2 _
  refine f_lloadN A54 d9_78 (pc' := 79) rfl rfl ?_
  refine f_ldc2J A54 d9_79 (pc' := 82) rfl (wd hw 91 rfl) ?_
  refine f_lmul A54 d9_82 (pc' := 83) rfl (s1 * (10 : Int64)) rfl ?_
  refine f_iload A54 d9_83 (pc' := 85) rfl rfl ?_
  refine f_bipush A54 d9_85 (pc' := 87) rfl 48 rfl ?_
  refine f_isub A54 d9_87 (pc' := 88) rfl (c12 - (48 : Int32)) rfl ?_
  refine f_i2l A54 d9_88 (pc' := 89) rfl ((c12 - (48 : Int32)).toInt64) rfl ?_
  refine f_ladd A54 d9_89 (pc' := 90) rfl s2 hs2 ?_
  refine f_lstoreN A54 d9_90 (pc' := 91) rfl (L' := #[.val (.ref x), .val (.int (12 : Int32)), .val (.long s2), .second, .val (.int (1 : Int32)), .val (.int c12)]) rfl ?_
  refine f_iinc A54 d9_91 (pc' := 94) rfl rfl (2 : Int32) (by decide) (L' := #[.val (.ref x), .val (.int (12 : Int32)), .val (.long s2), .second, .val (.int (2 : Int32)), .val (.int c12)]) rfl ?_
  refine f_goto A54 d9_94 (pc' := 37) (by decide) (by decide) ?_
  refine f_iload A54 d9_37 (pc' := 39) rfl rfl ?_
  refine f_aloadN A54 d9_39 (pc' := 40) rfl rfl rfl ?_
  refine f_callV A54 (a := x) d9_40 (pc' := 43) rfl (wd hw 59 rfl) (wd hw 60 rfl) (nfS A54 (wd hw 62 rfl)) (wd hw 62 rfl) (wd hw 61 rfl) (by decide) F.exa pd0 [] [(.int (2 : Int32))] rfl rfl rfl 1 (Nat.le_of_eq rfl) (payLen (W := 1) A54 hw (wd hw 21 rfl) F O2 P5 (by decide) (by decide)) (kc := 0) (ks := 0) (by decide) (by decide) all0 (fun q => nomatch q) fun v55 T55 h55 L55 A55 K55 q55 => ?_
  obtain ⟨rfl, hh55⟩ := q55
  obtain rfl := hh55.symm
  show Wp pG e below _ T55 (mkF m 43 _ [(.int (15 : Int32)), (.int (2 : Int32))])
  refine f_icN A55 d9_43 (tlt (by decide : (2 : Int32) < (15 : Int32))).2.1 (pc' := 46) rfl ?_
  refine f_aloadN A55 d9_46 (pc' := 47) rfl rfl rfl ?_
  refine f_iload A55 d9_47 (pc' := 49) rfl rfl ?_
  refine f_callV A55 (a := x) d9_49 (pc' := 52) rfl (wd hw 69 rfl) (wd hw 70 rfl) (nfS A55 (wd hw 72 rfl)) (wd hw 72 rfl) (wd hw 71 rfl) (by decide) F.exa pd1 [(.int (2 : Int32))] [] rfl rfl rfl 0 (Nat.le_of_eq rfl) (payCh (W := 0) A55 hw (wd hw 21 rfl) F (fun c hc => (lat c hc).2) O2 P5 O4 rG3 2 (Nat.le_of_ble_eq_true rfl) rfl (by decide) (by decide)) (kc := 0) (ks := 0) (by decide) (by decide) all0 (fun q => nomatch q) fun v56 T56 h56 L56 A56 K56 q56 => ?_
  obtain ⟨rfl, hh56⟩ := q56
  obtain rfl := hh56.symm
  show Wp pG e below _ T56 (mkF m 52 _ [(.int c11)])
  refine f_istore A56 d9_52 (pc' := 54) rfl (L' := #[.val (.ref x), .val (.int (12 : Int32)), .val (.long s2), .second, .val (.int (2 : Int32)), .val (.int c11)]) rfl ?_
  refine f_iload A56 d9_54 (pc' := 56) rfl rfl ?_
  refine f_iloadN A56 d9_56 (pc' := 57) rfl rfl ?_
  refine f_icN A56 d9_57 (feq (by decide : ¬ (2 : Int32) = (12 : Int32))).1 (pc' := 60) rfl ?_
  refine f_iload A56 d9_60 (pc' := 62) rfl rfl ?_
  refine f_bipush A56 d9_62 (pc' := 64) rfl 48 rfl ?_
  refine f_icN A56 d9_64 (flt (ge48 e11)).1 (pc' := 67) rfl ?_
  refine f_iload A56 d9_67 (pc' := 69) rfl rfl ?_
  refine f_bipush A56 d9_69 (pc' := 71) rfl 57 rfl ?_
  refine f_icY A56 d9_71 (flt (le57 e11)).2.2.2 (pc' := 78) (by decide) (by decide) ?_
  obtain ⟨s3, hs3⟩ : ∃ z, (s2 * (10 : Int64)) + (c11 - (48 : Int32)).toInt64 = z := ⟨_, rfl⟩
  have t3 : s3.toInt = V / 100000000000 % 1000 := by rw [accE (A := (V / 1000000000000 % 100)) hs3 (mulE t2 (bdK2 _)) (bdK2 _) e11, dvK12 V]; exact stK3 _
  refine f_lloadN A56 d9_78 (pc' := 79) rfl rfl ?_
  refine f_ldc2J A56 d9_79 (pc' := 82) rfl (wd hw 91 rfl) ?_
  refine f_lmul A56 d9_82 (pc' := 83) rfl (s2 * (10 : Int64)) rfl ?_
  refine f_iload A56 d9_83 (pc' := 85) rfl rfl ?_
  refine f_bipush A56 d9_85 (pc' := 87) rfl 48 rfl ?_
  refine f_isub A56 d9_87 (pc' := 88) rfl (c11 - (48 : Int32)) rfl ?_
  refine f_i2l A56 d9_88 (pc' := 89) rfl ((c11 - (48 : Int32)).toInt64) rfl ?_
  refine f_ladd A56 d9_89 (pc' := 90) rfl s3 hs3 ?_
  refine f_lstoreN A56 d9_90 (pc' := 91) rfl (L' := #[.val (.ref x), .val (.int (12 : Int32)), .val (.long s3), .second, .val (.int (2 : Int32)), .val (.int c11)]) rfl ?_
  refine f_iinc A56 d9_91 (pc' := 94) rfl rfl (3 : Int32) (by decide) (L' := #[.val (.ref x), .val (.int (12 : Int32)), .val (.long s3), .second, .val (.int (3 : Int32)), .val (.int c11)]) rfl ?_
  refine f_goto A56 d9_94 (pc' := 37) (by decide) (by decide) ?_
  refine f_iload A56 d9_37 (pc' := 39) rfl rfl ?_
  refine f_aloadN A56 d9_39 (pc' := 40) rfl rfl rfl ?_
  refine f_callV A56 (a := x) d9_40 (pc' := 43) rfl (wd hw 59 rfl) (wd hw 60 rfl) (nfS A56 (wd hw 62 rfl)) (wd hw 62 rfl) (wd hw 61 rfl) (by decide) F.exa pd0 [] [(.int (3 : Int32))] rfl rfl rfl 1 (Nat.le_of_eq rfl) (payLen (W := 1) A56 hw (wd hw 21 rfl) F O2 P5 (by decide) (by decide)) (kc := 0) (ks := 0) (by decide) (by decide) all0 (fun q => nomatch q) fun v57 T57 h57 L57 A57 K57 q57 => ?_
  obtain ⟨rfl, hh57⟩ := q57
  obtain rfl := hh57.symm
  show Wp pG e below _ T57 (mkF m 43 _ [(.int (15 : Int32)), (.int (3 : Int32))])
  refine f_icN A57 d9_43 (tlt (by decide : (3 : Int32) < (15 : Int32))).2.1 (pc' := 46) rfl ?_
  refine f_aloadN A57 d9_46 (pc' := 47) rfl rfl rfl ?_
  refine f_iload A57 d9_47 (pc' := 49) rfl rfl ?_
  refine f_callV A57 (a := x) d9_49 (pc' := 52) rfl (wd hw 69 rfl) (wd hw 70 rfl) (nfS A57 (wd hw 72 rfl)) (wd hw 72 rfl) (wd hw 71 rfl) (by decide) F.exa pd1 [(.int (3 : Int32))] [] rfl rfl rfl 0 (Nat.le_of_eq rfl) (payCh (W := 0) A57 hw (wd hw 21 rfl) F (fun c hc => (lat c hc).2) O2 P5 O4 rG3 3 (Nat.le_of_ble_eq_true rfl) rfl (by decide) (by decide)) (kc := 0) (ks := 0) (by decide) (by decide) all0 (fun q => nomatch q) fun v58 T58 h58 L58 A58 K58 q58 => ?_
  obtain ⟨rfl, hh58⟩ := q58
  obtain rfl := hh58.symm
  show Wp pG e below _ T58 (mkF m 52 _ [(.int c10)])
  refine f_istore A58 d9_52 (pc' := 54) rfl (L' := #[.val (.ref x), .val (.int (12 : Int32)), .val (.long s3), .second, .val (.int (3 : Int32)), .val (.int c10)]) rfl ?_
  refine f_iload A58 d9_54 (pc' := 56) rfl rfl ?_
  refine f_iloadN A58 d9_56 (pc' := 57) rfl rfl ?_
  refine f_icN A58 d9_57 (feq (by decide : ¬ (3 : Int32) = (12 : Int32))).1 (pc' := 60) rfl ?_
  refine f_iload A58 d9_60 (pc' := 62) rfl rfl ?_
  refine f_bipush A58 d9_62 (pc' := 64) rfl 48 rfl ?_
  refine f_icN A58 d9_64 (flt (ge48 e10)).1 (pc' := 67) rfl ?_
  refine f_iload A58 d9_67 (pc' := 69) rfl rfl ?_
  refine f_bipush A58 d9_69 (pc' := 71) rfl 57 rfl ?_
  refine f_icY A58 d9_71 (flt (le57 e10)).2.2.2 (pc' := 78) (by decide) (by decide) ?_
  obtain ⟨s4, hs4⟩ : ∃ z, (s3 * (10 : Int64)) + (c10 - (48 : Int32)).toInt64 = z := ⟨_, rfl⟩
  have t4 : s4.toInt = V / 10000000000 % 10000 := by rw [accE (A := (V / 100000000000 % 1000)) hs4 (mulE t3 (bdK3 _)) (bdK3 _) e10, dvK11 V]; exact stK4 _
  refine f_lloadN A58 d9_78 (pc' := 79) rfl rfl ?_
  refine f_ldc2J A58 d9_79 (pc' := 82) rfl (wd hw 91 rfl) ?_
  refine f_lmul A58 d9_82 (pc' := 83) rfl (s3 * (10 : Int64)) rfl ?_
  refine f_iload A58 d9_83 (pc' := 85) rfl rfl ?_
  refine f_bipush A58 d9_85 (pc' := 87) rfl 48 rfl ?_
  refine f_isub A58 d9_87 (pc' := 88) rfl (c10 - (48 : Int32)) rfl ?_
  refine f_i2l A58 d9_88 (pc' := 89) rfl ((c10 - (48 : Int32)).toInt64) rfl ?_
  refine f_ladd A58 d9_89 (pc' := 90) rfl s4 hs4 ?_
  refine f_lstoreN A58 d9_90 (pc' := 91) rfl (L' := #[.val (.ref x), .val (.int (12 : Int32)), .val (.long s4), .second, .val (.int (3 : Int32)), .val (.int c10)]) rfl ?_
  refine f_iinc A58 d9_91 (pc' := 94) rfl rfl (4 : Int32) (by decide) (L' := #[.val (.ref x), .val (.int (12 : Int32)), .val (.long s4), .second, .val (.int (4 : Int32)), .val (.int c10)]) rfl ?_
  refine f_goto A58 d9_94 (pc' := 37) (by decide) (by decide) ?_
  refine f_iload A58 d9_37 (pc' := 39) rfl rfl ?_
  refine f_aloadN A58 d9_39 (pc' := 40) rfl rfl rfl ?_
  refine f_callV A58 (a := x) d9_40 (pc' := 43) rfl (wd hw 59 rfl) (wd hw 60 rfl) (nfS A58 (wd hw 62 rfl)) (wd hw 62 rfl) (wd hw 61 rfl) (by decide) F.exa pd0 [] [(.int (4 : Int32))] rfl rfl rfl 1 (Nat.le_of_eq rfl) (payLen (W := 1) A58 hw (wd hw 21 rfl) F O2 P5 (by decide) (by decide)) (kc := 0) (ks := 0) (by decide) (by decide) all0 (fun q => nomatch q) fun v59 T59 h59 L59 A59 K59 q59 => ?_
  obtain ⟨rfl, hh59⟩ := q59
  obtain rfl := hh59.symm
  show Wp pG e below _ T59 (mkF m 43 _ [(.int (15 : Int32)), (.int (4 : Int32))])
  refine f_icN A59 d9_43 (tlt (by decide : (4 : Int32) < (15 : Int32))).2.1 (pc' := 46) rfl ?_
  refine f_aloadN A59 d9_46 (pc' := 47) rfl rfl rfl ?_
  refine f_iload A59 d9_47 (pc' := 49) rfl rfl ?_
  refine f_callV A59 (a := x) d9_49 (pc' := 52) rfl (wd hw 69 rfl) (wd hw 70 rfl) (nfS A59 (wd hw 72 rfl)) (wd hw 72 rfl) (wd hw 71 rfl) (by decide) F.exa pd1 [(.int (4 : Int32))] [] rfl rfl rfl 0 (Nat.le_of_eq rfl) (payCh (W := 0) A59 hw (wd hw 21 rfl) F (fun c hc => (lat c hc).2) O2 P5 O4 rG3 4 (Nat.le_of_ble_eq_true rfl) rfl (by decide) (by decide)) (kc := 0) (ks := 0) (by decide) (by decide) all0 (fun q => nomatch q) fun v60 T60 h60 L60 A60 K60 q60 => ?_
  obtain ⟨rfl, hh60⟩ := q60
  obtain rfl := hh60.symm
  show Wp pG e below _ T60 (mkF m 52 _ [(.int c9)])
  refine f_istore A60 d9_52 (pc' := 54) rfl (L' := #[.val (.ref x), .val (.int (12 : Int32)), .val (.long s4), .second, .val (.int (4 : Int32)), .val (.int c9)]) rfl ?_
  refine f_iload A60 d9_54 (pc' := 56) rfl rfl ?_
  refine f_iloadN A60 d9_56 (pc' := 57) rfl rfl ?_
  refine f_icN A60 d9_57 (feq (by decide : ¬ (4 : Int32) = (12 : Int32))).1 (pc' := 60) rfl ?_
  refine f_iload A60 d9_60 (pc' := 62) rfl rfl ?_
  refine f_bipush A60 d9_62 (pc' := 64) rfl 48 rfl ?_
  refine f_icN A60 d9_64 (flt (ge48 e9)).1 (pc' := 67) rfl ?_
  refine f_iload A60 d9_67 (pc' := 69) rfl rfl ?_
  refine f_bipush A60 d9_69 (pc' := 71) rfl 57 rfl ?_
  refine f_icY A60 d9_71 (flt (le57 e9)).2.2.2 (pc' := 78) (by decide) (by decide) ?_
  obtain ⟨s5, hs5⟩ : ∃ z, (s4 * (10 : Int64)) + (c9 - (48 : Int32)).toInt64 = z := ⟨_, rfl⟩
  have t5 : s5.toInt = V / 1000000000 % 100000 := by rw [accE (A := (V / 10000000000 % 10000)) hs5 (mulE t4 (bdK4 _)) (bdK4 _) e9, dvK10 V]; exact stK5 _
  refine f_lloadN A60 d9_78 (pc' := 79) rfl rfl ?_
  refine f_ldc2J A60 d9_79 (pc' := 82) rfl (wd hw 91 rfl) ?_
  refine f_lmul A60 d9_82 (pc' := 83) rfl (s4 * (10 : Int64)) rfl ?_
  refine f_iload A60 d9_83 (pc' := 85) rfl rfl ?_
  refine f_bipush A60 d9_85 (pc' := 87) rfl 48 rfl ?_
  refine f_isub A60 d9_87 (pc' := 88) rfl (c9 - (48 : Int32)) rfl ?_
  refine f_i2l A60 d9_88 (pc' := 89) rfl ((c9 - (48 : Int32)).toInt64) rfl ?_
  refine f_ladd A60 d9_89 (pc' := 90) rfl s5 hs5 ?_
  refine f_lstoreN A60 d9_90 (pc' := 91) rfl (L' := #[.val (.ref x), .val (.int (12 : Int32)), .val (.long s5), .second, .val (.int (4 : Int32)), .val (.int c9)]) rfl ?_
  refine f_iinc A60 d9_91 (pc' := 94) rfl rfl (5 : Int32) (by decide) (L' := #[.val (.ref x), .val (.int (12 : Int32)), .val (.long s5), .second, .val (.int (5 : Int32)), .val (.int c9)]) rfl ?_
  refine f_goto A60 d9_94 (pc' := 37) (by decide) (by decide) ?_
  refine f_iload A60 d9_37 (pc' := 39) rfl rfl ?_
  refine f_aloadN A60 d9_39 (pc' := 40) rfl rfl rfl ?_
  refine f_callV A60 (a := x) d9_40 (pc' := 43) rfl (wd hw 59 rfl) (wd hw 60 rfl) (nfS A60 (wd hw 62 rfl)) (wd hw 62 rfl) (wd hw 61 rfl) (by decide) F.exa pd0 [] [(.int (5 : Int32))] rfl rfl rfl 1 (Nat.le_of_eq rfl) (payLen (W := 1) A60 hw (wd hw 21 rfl) F O2 P5 (by decide) (by decide)) (kc := 0) (ks := 0) (by decide) (by decide) all0 (fun q => nomatch q) fun v61 T61 h61 L61 A61 K61 q61 => ?_
  obtain ⟨rfl, hh61⟩ := q61
  obtain rfl := hh61.symm
  show Wp pG e below _ T61 (mkF m 43 _ [(.int (15 : Int32)), (.int (5 : Int32))])
  refine f_icN A61 d9_43 (tlt (by decide : (5 : Int32) < (15 : Int32))).2.1 (pc' := 46) rfl ?_
  refine f_aloadN A61 d9_46 (pc' := 47) rfl rfl rfl ?_
  refine f_iload A61 d9_47 (pc' := 49) rfl rfl ?_
  refine f_callV A61 (a := x) d9_49 (pc' := 52) rfl (wd hw 69 rfl) (wd hw 70 rfl) (nfS A61 (wd hw 72 rfl)) (wd hw 72 rfl) (wd hw 71 rfl) (by decide) F.exa pd1 [(.int (5 : Int32))] [] rfl rfl rfl 0 (Nat.le_of_eq rfl) (payCh (W := 0) A61 hw (wd hw 21 rfl) F (fun c hc => (lat c hc).2) O2 P5 O4 rG3 5 (Nat.le_of_ble_eq_true rfl) rfl (by decide) (by decide)) (kc := 0) (ks := 0) (by decide) (by decide) all0 (fun q => nomatch q) fun v62 T62 h62 L62 A62 K62 q62 => ?_
  obtain ⟨rfl, hh62⟩ := q62
  obtain rfl := hh62.symm
  show Wp pG e below _ T62 (mkF m 52 _ [(.int c8)])
  refine f_istore A62 d9_52 (pc' := 54) rfl (L' := #[.val (.ref x), .val (.int (12 : Int32)), .val (.long s5), .second, .val (.int (5 : Int32)), .val (.int c8)]) rfl ?_
  refine f_iload A62 d9_54 (pc' := 56) rfl rfl ?_
  refine f_iloadN A62 d9_56 (pc' := 57) rfl rfl ?_
  refine f_icN A62 d9_57 (feq (by decide : ¬ (5 : Int32) = (12 : Int32))).1 (pc' := 60) rfl ?_
  refine f_iload A62 d9_60 (pc' := 62) rfl rfl ?_
  refine f_bipush A62 d9_62 (pc' := 64) rfl 48 rfl ?_
  refine f_icN A62 d9_64 (flt (ge48 e8)).1 (pc' := 67) rfl ?_
  refine f_iload A62 d9_67 (pc' := 69) rfl rfl ?_
  refine f_bipush A62 d9_69 (pc' := 71) rfl 57 rfl ?_
  refine f_icY A62 d9_71 (flt (le57 e8)).2.2.2 (pc' := 78) (by decide) (by decide) ?_
  obtain ⟨s6, hs6⟩ : ∃ z, (s5 * (10 : Int64)) + (c8 - (48 : Int32)).toInt64 = z := ⟨_, rfl⟩
  have t6 : s6.toInt = V / 100000000 % 1000000 := by rw [accE (A := (V / 1000000000 % 100000)) hs6 (mulE t5 (bdK5 _)) (bdK5 _) e8, dvK9 V]; exact stK6 _
  refine f_lloadN A62 d9_78 (pc' := 79) rfl rfl ?_
  refine f_ldc2J A62 d9_79 (pc' := 82) rfl (wd hw 91 rfl) ?_
  refine f_lmul A62 d9_82 (pc' := 83) rfl (s5 * (10 : Int64)) rfl ?_
  refine f_iload A62 d9_83 (pc' := 85) rfl rfl ?_
  refine f_bipush A62 d9_85 (pc' := 87) rfl 48 rfl ?_
  refine f_isub A62 d9_87 (pc' := 88) rfl (c8 - (48 : Int32)) rfl ?_
  refine f_i2l A62 d9_88 (pc' := 89) rfl ((c8 - (48 : Int32)).toInt64) rfl ?_
  refine f_ladd A62 d9_89 (pc' := 90) rfl s6 hs6 ?_
  refine f_lstoreN A62 d9_90 (pc' := 91) rfl (L' := #[.val (.ref x), .val (.int (12 : Int32)), .val (.long s6), .second, .val (.int (5 : Int32)), .val (.int c8)]) rfl ?_
  refine f_iinc A62 d9_91 (pc' := 94) rfl rfl (6 : Int32) (by decide) (L' := #[.val (.ref x), .val (.int (12 : Int32)), .val (.long s6), .second, .val (.int (6 : Int32)), .val (.int c8)]) rfl ?_
  refine f_goto A62 d9_94 (pc' := 37) (by decide) (by decide) ?_
  refine f_iload A62 d9_37 (pc' := 39) rfl rfl ?_
  refine f_aloadN A62 d9_39 (pc' := 40) rfl rfl rfl ?_
  refine f_callV A62 (a := x) d9_40 (pc' := 43) rfl (wd hw 59 rfl) (wd hw 60 rfl) (nfS A62 (wd hw 62 rfl)) (wd hw 62 rfl) (wd hw 61 rfl) (by decide) F.exa pd0 [] [(.int (6 : Int32))] rfl rfl rfl 1 (Nat.le_of_eq rfl) (payLen (W := 1) A62 hw (wd hw 21 rfl) F O2 P5 (by decide) (by decide)) (kc := 0) (ks := 0) (by decide) (by decide) all0 (fun q => nomatch q) fun v63 T63 h63 L63 A63 K63 q63 => ?_
  obtain ⟨rfl, hh63⟩ := q63
  obtain rfl := hh63.symm
  show Wp pG e below _ T63 (mkF m 43 _ [(.int (15 : Int32)), (.int (6 : Int32))])
  refine f_icN A63 d9_43 (tlt (by decide : (6 : Int32) < (15 : Int32))).2.1 (pc' := 46) rfl ?_
  refine f_aloadN A63 d9_46 (pc' := 47) rfl rfl rfl ?_
  refine f_iload A63 d9_47 (pc' := 49) rfl rfl ?_
  refine f_callV A63 (a := x) d9_49 (pc' := 52) rfl (wd hw 69 rfl) (wd hw 70 rfl) (nfS A63 (wd hw 72 rfl)) (wd hw 72 rfl) (wd hw 71 rfl) (by decide) F.exa pd1 [(.int (6 : Int32))] [] rfl rfl rfl 0 (Nat.le_of_eq rfl) (payCh (W := 0) A63 hw (wd hw 21 rfl) F (fun c hc => (lat c hc).2) O2 P5 O4 rG3 6 (Nat.le_of_ble_eq_true rfl) rfl (by decide) (by decide)) (kc := 0) (ks := 0) (by decide) (by decide) all0 (fun q => nomatch q) fun v64 T64 h64 L64 A64 K64 q64 => ?_
  obtain ⟨rfl, hh64⟩ := q64
  obtain rfl := hh64.symm
  show Wp pG e below _ T64 (mkF m 52 _ [(.int c7)])
  refine f_istore A64 d9_52 (pc' := 54) rfl (L' := #[.val (.ref x), .val (.int (12 : Int32)), .val (.long s6), .second, .val (.int (6 : Int32)), .val (.int c7)]) rfl ?_
  refine f_iload A64 d9_54 (pc' := 56) rfl rfl ?_
  refine f_iloadN A64 d9_56 (pc' := 57) rfl rfl ?_
  refine f_icN A64 d9_57 (feq (by decide : ¬ (6 : Int32) = (12 : Int32))).1 (pc' := 60) rfl ?_
  refine f_iload A64 d9_60 (pc' := 62) rfl rfl ?_
  refine f_bipush A64 d9_62 (pc' := 64) rfl 48 rfl ?_
  refine f_icN A64 d9_64 (flt (ge48 e7)).1 (pc' := 67) rfl ?_
  refine f_iload A64 d9_67 (pc' := 69) rfl rfl ?_
  refine f_bipush A64 d9_69 (pc' := 71) rfl 57 rfl ?_
  refine f_icY A64 d9_71 (flt (le57 e7)).2.2.2 (pc' := 78) (by decide) (by decide) ?_
  obtain ⟨s7, hs7⟩ : ∃ z, (s6 * (10 : Int64)) + (c7 - (48 : Int32)).toInt64 = z := ⟨_, rfl⟩
  have t7 : s7.toInt = V / 10000000 % 10000000 := by rw [accE (A := (V / 100000000 % 1000000)) hs7 (mulE t6 (bdK6 _)) (bdK6 _) e7, dvK8 V]; exact stK7 _
  refine f_lloadN A64 d9_78 (pc' := 79) rfl rfl ?_
  refine f_ldc2J A64 d9_79 (pc' := 82) rfl (wd hw 91 rfl) ?_
  refine f_lmul A64 d9_82 (pc' := 83) rfl (s6 * (10 : Int64)) rfl ?_
  refine f_iload A64 d9_83 (pc' := 85) rfl rfl ?_
  refine f_bipush A64 d9_85 (pc' := 87) rfl 48 rfl ?_
  refine f_isub A64 d9_87 (pc' := 88) rfl (c7 - (48 : Int32)) rfl ?_
  refine f_i2l A64 d9_88 (pc' := 89) rfl ((c7 - (48 : Int32)).toInt64) rfl ?_
  refine f_ladd A64 d9_89 (pc' := 90) rfl s7 hs7 ?_
  refine f_lstoreN A64 d9_90 (pc' := 91) rfl (L' := #[.val (.ref x), .val (.int (12 : Int32)), .val (.long s7), .second, .val (.int (6 : Int32)), .val (.int c7)]) rfl ?_
  refine f_iinc A64 d9_91 (pc' := 94) rfl rfl (7 : Int32) (by decide) (L' := #[.val (.ref x), .val (.int (12 : Int32)), .val (.long s7), .second, .val (.int (7 : Int32)), .val (.int c7)]) rfl ?_
  refine f_goto A64 d9_94 (pc' := 37) (by decide) (by decide) ?_
  refine f_iload A64 d9_37 (pc' := 39) rfl rfl ?_
  refine f_aloadN A64 d9_39 (pc' := 40) rfl rfl rfl ?_
  refine f_callV A64 (a := x) d9_40 (pc' := 43) rfl (wd hw 59 rfl) (wd hw 60 rfl) (nfS A64 (wd hw 62 rfl)) (wd hw 62 rfl) (wd hw 61 rfl) (by decide) F.exa pd0 [] [(.int (7 : Int32))] rfl rfl rfl 1 (Nat.le_of_eq rfl) (payLen (W := 1) A64 hw (wd hw 21 rfl) F O2 P5 (by decide) (by decide)) (kc := 0) (ks := 0) (by decide) (by decide) all0 (fun q => nomatch q) fun v65 T65 h65 L65 A65 K65 q65 => ?_
  obtain ⟨rfl, hh65⟩ := q65
  obtain rfl := hh65.symm
  show Wp pG e below _ T65 (mkF m 43 _ [(.int (15 : Int32)), (.int (7 : Int32))])
  refine f_icN A65 d9_43 (tlt (by decide : (7 : Int32) < (15 : Int32))).2.1 (pc' := 46) rfl ?_
  refine f_aloadN A65 d9_46 (pc' := 47) rfl rfl rfl ?_
  refine f_iload A65 d9_47 (pc' := 49) rfl rfl ?_
  refine f_callV A65 (a := x) d9_49 (pc' := 52) rfl (wd hw 69 rfl) (wd hw 70 rfl) (nfS A65 (wd hw 72 rfl)) (wd hw 72 rfl) (wd hw 71 rfl) (by decide) F.exa pd1 [(.int (7 : Int32))] [] rfl rfl rfl 0 (Nat.le_of_eq rfl) (payCh (W := 0) A65 hw (wd hw 21 rfl) F (fun c hc => (lat c hc).2) O2 P5 O4 rG3 7 (Nat.le_of_ble_eq_true rfl) rfl (by decide) (by decide)) (kc := 0) (ks := 0) (by decide) (by decide) all0 (fun q => nomatch q) fun v66 T66 h66 L66 A66 K66 q66 => ?_
  obtain ⟨rfl, hh66⟩ := q66
  obtain rfl := hh66.symm
  show Wp pG e below _ T66 (mkF m 52 _ [(.int c6)])
  refine f_istore A66 d9_52 (pc' := 54) rfl (L' := #[.val (.ref x), .val (.int (12 : Int32)), .val (.long s7), .second, .val (.int (7 : Int32)), .val (.int c6)]) rfl ?_
  refine f_iload A66 d9_54 (pc' := 56) rfl rfl ?_
  refine f_iloadN A66 d9_56 (pc' := 57) rfl rfl ?_
  refine f_icN A66 d9_57 (feq (by decide : ¬ (7 : Int32) = (12 : Int32))).1 (pc' := 60) rfl ?_
  refine f_iload A66 d9_60 (pc' := 62) rfl rfl ?_
  refine f_bipush A66 d9_62 (pc' := 64) rfl 48 rfl ?_
  refine f_icN A66 d9_64 (flt (ge48 e6)).1 (pc' := 67) rfl ?_
  refine f_iload A66 d9_67 (pc' := 69) rfl rfl ?_
  refine f_bipush A66 d9_69 (pc' := 71) rfl 57 rfl ?_
  refine f_icY A66 d9_71 (flt (le57 e6)).2.2.2 (pc' := 78) (by decide) (by decide) ?_
  obtain ⟨s8, hs8⟩ : ∃ z, (s7 * (10 : Int64)) + (c6 - (48 : Int32)).toInt64 = z := ⟨_, rfl⟩
  have t8 : s8.toInt = V / 1000000 % 100000000 := by rw [accE (A := (V / 10000000 % 10000000)) hs8 (mulE t7 (bdK7 _)) (bdK7 _) e6, dvK7 V]; exact stK8 _
  refine f_lloadN A66 d9_78 (pc' := 79) rfl rfl ?_
  refine f_ldc2J A66 d9_79 (pc' := 82) rfl (wd hw 91 rfl) ?_
  refine f_lmul A66 d9_82 (pc' := 83) rfl (s7 * (10 : Int64)) rfl ?_
  refine f_iload A66 d9_83 (pc' := 85) rfl rfl ?_
  refine f_bipush A66 d9_85 (pc' := 87) rfl 48 rfl ?_
  refine f_isub A66 d9_87 (pc' := 88) rfl (c6 - (48 : Int32)) rfl ?_
  refine f_i2l A66 d9_88 (pc' := 89) rfl ((c6 - (48 : Int32)).toInt64) rfl ?_
  refine f_ladd A66 d9_89 (pc' := 90) rfl s8 hs8 ?_
  refine f_lstoreN A66 d9_90 (pc' := 91) rfl (L' := #[.val (.ref x), .val (.int (12 : Int32)), .val (.long s8), .second, .val (.int (7 : Int32)), .val (.int c6)]) rfl ?_
  refine f_iinc A66 d9_91 (pc' := 94) rfl rfl (8 : Int32) (by decide) (L' := #[.val (.ref x), .val (.int (12 : Int32)), .val (.long s8), .second, .val (.int (8 : Int32)), .val (.int c6)]) rfl ?_
  refine f_goto A66 d9_94 (pc' := 37) (by decide) (by decide) ?_
  refine f_iload A66 d9_37 (pc' := 39) rfl rfl ?_
  refine f_aloadN A66 d9_39 (pc' := 40) rfl rfl rfl ?_
  refine f_callV A66 (a := x) d9_40 (pc' := 43) rfl (wd hw 59 rfl) (wd hw 60 rfl) (nfS A66 (wd hw 62 rfl)) (wd hw 62 rfl) (wd hw 61 rfl) (by decide) F.exa pd0 [] [(.int (8 : Int32))] rfl rfl rfl 1 (Nat.le_of_eq rfl) (payLen (W := 1) A66 hw (wd hw 21 rfl) F O2 P5 (by decide) (by decide)) (kc := 0) (ks := 0) (by decide) (by decide) all0 (fun q => nomatch q) fun v67 T67 h67 L67 A67 K67 q67 => ?_
  obtain ⟨rfl, hh67⟩ := q67
  obtain rfl := hh67.symm
  show Wp pG e below _ T67 (mkF m 43 _ [(.int (15 : Int32)), (.int (8 : Int32))])
  refine f_icN A67 d9_43 (tlt (by decide : (8 : Int32) < (15 : Int32))).2.1 (pc' := 46) rfl ?_
  refine f_aloadN A67 d9_46 (pc' := 47) rfl rfl rfl ?_
  refine f_iload A67 d9_47 (pc' := 49) rfl rfl ?_
  refine f_callV A67 (a := x) d9_49 (pc' := 52) rfl (wd hw 69 rfl) (wd hw 70 rfl) (nfS A67 (wd hw 72 rfl)) (wd hw 72 rfl) (wd hw 71 rfl) (by decide) F.exa pd1 [(.int (8 : Int32))] [] rfl rfl rfl 0 (Nat.le_of_eq rfl) (payCh (W := 0) A67 hw (wd hw 21 rfl) F (fun c hc => (lat c hc).2) O2 P5 O4 rG3 8 (Nat.le_of_ble_eq_true rfl) rfl (by decide) (by decide)) (kc := 0) (ks := 0) (by decide) (by decide) all0 (fun q => nomatch q) fun v68 T68 h68 L68 A68 K68 q68 => ?_
  obtain ⟨rfl, hh68⟩ := q68
  obtain rfl := hh68.symm
  show Wp pG e below _ T68 (mkF m 52 _ [(.int c5)])
  refine f_istore A68 d9_52 (pc' := 54) rfl (L' := #[.val (.ref x), .val (.int (12 : Int32)), .val (.long s8), .second, .val (.int (8 : Int32)), .val (.int c5)]) rfl ?_
  refine f_iload A68 d9_54 (pc' := 56) rfl rfl ?_
  refine f_iloadN A68 d9_56 (pc' := 57) rfl rfl ?_
  refine f_icN A68 d9_57 (feq (by decide : ¬ (8 : Int32) = (12 : Int32))).1 (pc' := 60) rfl ?_
  refine f_iload A68 d9_60 (pc' := 62) rfl rfl ?_
  refine f_bipush A68 d9_62 (pc' := 64) rfl 48 rfl ?_
  refine f_icN A68 d9_64 (flt (ge48 e5)).1 (pc' := 67) rfl ?_
  refine f_iload A68 d9_67 (pc' := 69) rfl rfl ?_
  refine f_bipush A68 d9_69 (pc' := 71) rfl 57 rfl ?_
  refine f_icY A68 d9_71 (flt (le57 e5)).2.2.2 (pc' := 78) (by decide) (by decide) ?_
  obtain ⟨s9, hs9⟩ : ∃ z, (s8 * (10 : Int64)) + (c5 - (48 : Int32)).toInt64 = z := ⟨_, rfl⟩
  have t9 : s9.toInt = V / 100000 % 1000000000 := by rw [accE (A := (V / 1000000 % 100000000)) hs9 (mulE t8 (bdK8 _)) (bdK8 _) e5, dvK6 V]; exact stK9 _
  refine f_lloadN A68 d9_78 (pc' := 79) rfl rfl ?_
  refine f_ldc2J A68 d9_79 (pc' := 82) rfl (wd hw 91 rfl) ?_
  refine f_lmul A68 d9_82 (pc' := 83) rfl (s8 * (10 : Int64)) rfl ?_
  refine f_iload A68 d9_83 (pc' := 85) rfl rfl ?_
  refine f_bipush A68 d9_85 (pc' := 87) rfl 48 rfl ?_
  refine f_isub A68 d9_87 (pc' := 88) rfl (c5 - (48 : Int32)) rfl ?_
  refine f_i2l A68 d9_88 (pc' := 89) rfl ((c5 - (48 : Int32)).toInt64) rfl ?_
  refine f_ladd A68 d9_89 (pc' := 90) rfl s9 hs9 ?_
  refine f_lstoreN A68 d9_90 (pc' := 91) rfl (L' := #[.val (.ref x), .val (.int (12 : Int32)), .val (.long s9), .second, .val (.int (8 : Int32)), .val (.int c5)]) rfl ?_
  refine f_iinc A68 d9_91 (pc' := 94) rfl rfl (9 : Int32) (by decide) (L' := #[.val (.ref x), .val (.int (12 : Int32)), .val (.long s9), .second, .val (.int (9 : Int32)), .val (.int c5)]) rfl ?_
  refine f_goto A68 d9_94 (pc' := 37) (by decide) (by decide) ?_
  refine f_iload A68 d9_37 (pc' := 39) rfl rfl ?_
  refine f_aloadN A68 d9_39 (pc' := 40) rfl rfl rfl ?_
  refine f_callV A68 (a := x) d9_40 (pc' := 43) rfl (wd hw 59 rfl) (wd hw 60 rfl) (nfS A68 (wd hw 62 rfl)) (wd hw 62 rfl) (wd hw 61 rfl) (by decide) F.exa pd0 [] [(.int (9 : Int32))] rfl rfl rfl 1 (Nat.le_of_eq rfl) (payLen (W := 1) A68 hw (wd hw 21 rfl) F O2 P5 (by decide) (by decide)) (kc := 0) (ks := 0) (by decide) (by decide) all0 (fun q => nomatch q) fun v69 T69 h69 L69 A69 K69 q69 => ?_
  obtain ⟨rfl, hh69⟩ := q69
  obtain rfl := hh69.symm
  show Wp pG e below _ T69 (mkF m 43 _ [(.int (15 : Int32)), (.int (9 : Int32))])
  refine f_icN A69 d9_43 (tlt (by decide : (9 : Int32) < (15 : Int32))).2.1 (pc' := 46) rfl ?_
  refine f_aloadN A69 d9_46 (pc' := 47) rfl rfl rfl ?_
  refine f_iload A69 d9_47 (pc' := 49) rfl rfl ?_
  refine f_callV A69 (a := x) d9_49 (pc' := 52) rfl (wd hw 69 rfl) (wd hw 70 rfl) (nfS A69 (wd hw 72 rfl)) (wd hw 72 rfl) (wd hw 71 rfl) (by decide) F.exa pd1 [(.int (9 : Int32))] [] rfl rfl rfl 0 (Nat.le_of_eq rfl) (payCh (W := 0) A69 hw (wd hw 21 rfl) F (fun c hc => (lat c hc).2) O2 P5 O4 rG3 9 (Nat.le_of_ble_eq_true rfl) rfl (by decide) (by decide)) (kc := 0) (ks := 0) (by decide) (by decide) all0 (fun q => nomatch q) fun v70 T70 h70 L70 A70 K70 q70 => ?_
  obtain ⟨rfl, hh70⟩ := q70
  obtain rfl := hh70.symm
  show Wp pG e below _ T70 (mkF m 52 _ [(.int c4)])
  refine f_istore A70 d9_52 (pc' := 54) rfl (L' := #[.val (.ref x), .val (.int (12 : Int32)), .val (.long s9), .second, .val (.int (9 : Int32)), .val (.int c4)]) rfl ?_
  refine f_iload A70 d9_54 (pc' := 56) rfl rfl ?_
  refine f_iloadN A70 d9_56 (pc' := 57) rfl rfl ?_
  refine f_icN A70 d9_57 (feq (by decide : ¬ (9 : Int32) = (12 : Int32))).1 (pc' := 60) rfl ?_
  refine f_iload A70 d9_60 (pc' := 62) rfl rfl ?_
  refine f_bipush A70 d9_62 (pc' := 64) rfl 48 rfl ?_
  refine f_icN A70 d9_64 (flt (ge48 e4)).1 (pc' := 67) rfl ?_
  refine f_iload A70 d9_67 (pc' := 69) rfl rfl ?_
  refine f_bipush A70 d9_69 (pc' := 71) rfl 57 rfl ?_
  refine f_icY A70 d9_71 (flt (le57 e4)).2.2.2 (pc' := 78) (by decide) (by decide) ?_
  obtain ⟨s10, hs10⟩ : ∃ z, (s9 * (10 : Int64)) + (c4 - (48 : Int32)).toInt64 = z := ⟨_, rfl⟩
  have t10 : s10.toInt = V / 10000 % 10000000000 := by rw [accE (A := (V / 100000 % 1000000000)) hs10 (mulE t9 (bdK9 _)) (bdK9 _) e4, dvK5 V]; exact stK10 _
  refine f_lloadN A70 d9_78 (pc' := 79) rfl rfl ?_
  refine f_ldc2J A70 d9_79 (pc' := 82) rfl (wd hw 91 rfl) ?_
  refine f_lmul A70 d9_82 (pc' := 83) rfl (s9 * (10 : Int64)) rfl ?_
  refine f_iload A70 d9_83 (pc' := 85) rfl rfl ?_
  refine f_bipush A70 d9_85 (pc' := 87) rfl 48 rfl ?_
  refine f_isub A70 d9_87 (pc' := 88) rfl (c4 - (48 : Int32)) rfl ?_
  refine f_i2l A70 d9_88 (pc' := 89) rfl ((c4 - (48 : Int32)).toInt64) rfl ?_
  refine f_ladd A70 d9_89 (pc' := 90) rfl s10 hs10 ?_
  refine f_lstoreN A70 d9_90 (pc' := 91) rfl (L' := #[.val (.ref x), .val (.int (12 : Int32)), .val (.long s10), .second, .val (.int (9 : Int32)), .val (.int c4)]) rfl ?_
  refine f_iinc A70 d9_91 (pc' := 94) rfl rfl (10 : Int32) (by decide) (L' := #[.val (.ref x), .val (.int (12 : Int32)), .val (.long s10), .second, .val (.int (10 : Int32)), .val (.int c4)]) rfl ?_
  refine f_goto A70 d9_94 (pc' := 37) (by decide) (by decide) ?_
  refine f_iload A70 d9_37 (pc' := 39) rfl rfl ?_
  refine f_aloadN A70 d9_39 (pc' := 40) rfl rfl rfl ?_
  refine f_callV A70 (a := x) d9_40 (pc' := 43) rfl (wd hw 59 rfl) (wd hw 60 rfl) (nfS A70 (wd hw 62 rfl)) (wd hw 62 rfl) (wd hw 61 rfl) (by decide) F.exa pd0 [] [(.int (10 : Int32))] rfl rfl rfl 1 (Nat.le_of_eq rfl) (payLen (W := 1) A70 hw (wd hw 21 rfl) F O2 P5 (by decide) (by decide)) (kc := 0) (ks := 0) (by decide) (by decide) all0 (fun q => nomatch q) fun v71 T71 h71 L71 A71 K71 q71 => ?_
  obtain ⟨rfl, hh71⟩ := q71
  obtain rfl := hh71.symm
  show Wp pG e below _ T71 (mkF m 43 _ [(.int (15 : Int32)), (.int (10 : Int32))])
  refine f_icN A71 d9_43 (tlt (by decide : (10 : Int32) < (15 : Int32))).2.1 (pc' := 46) rfl ?_
  refine f_aloadN A71 d9_46 (pc' := 47) rfl rfl rfl ?_
  refine f_iload A71 d9_47 (pc' := 49) rfl rfl ?_
  refine f_callV A71 (a := x) d9_49 (pc' := 52) rfl (wd hw 69 rfl) (wd hw 70 rfl) (nfS A71 (wd hw 72 rfl)) (wd hw 72 rfl) (wd hw 71 rfl) (by decide) F.exa pd1 [(.int (10 : Int32))] [] rfl rfl rfl 0 (Nat.le_of_eq rfl) (payCh (W := 0) A71 hw (wd hw 21 rfl) F (fun c hc => (lat c hc).2) O2 P5 O4 rG3 10 (Nat.le_of_ble_eq_true rfl) rfl (by decide) (by decide)) (kc := 0) (ks := 0) (by decide) (by decide) all0 (fun q => nomatch q) fun v72 T72 h72 L72 A72 K72 q72 => ?_
  obtain ⟨rfl, hh72⟩ := q72
  obtain rfl := hh72.symm
  show Wp pG e below _ T72 (mkF m 52 _ [(.int c3)])
  refine f_istore A72 d9_52 (pc' := 54) rfl (L' := #[.val (.ref x), .val (.int (12 : Int32)), .val (.long s10), .second, .val (.int (10 : Int32)), .val (.int c3)]) rfl ?_
  refine f_iload A72 d9_54 (pc' := 56) rfl rfl ?_
  refine f_iloadN A72 d9_56 (pc' := 57) rfl rfl ?_
  refine f_icN A72 d9_57 (feq (by decide : ¬ (10 : Int32) = (12 : Int32))).1 (pc' := 60) rfl ?_
  refine f_iload A72 d9_60 (pc' := 62) rfl rfl ?_
  refine f_bipush A72 d9_62 (pc' := 64) rfl 48 rfl ?_
  refine f_icN A72 d9_64 (flt (ge48 e3)).1 (pc' := 67) rfl ?_
  refine f_iload A72 d9_67 (pc' := 69) rfl rfl ?_
  refine f_bipush A72 d9_69 (pc' := 71) rfl 57 rfl ?_
  refine f_icY A72 d9_71 (flt (le57 e3)).2.2.2 (pc' := 78) (by decide) (by decide) ?_
  obtain ⟨s11, hs11⟩ : ∃ z, (s10 * (10 : Int64)) + (c3 - (48 : Int32)).toInt64 = z := ⟨_, rfl⟩
  have t11 : s11.toInt = V / 1000 % 100000000000 := by rw [accE (A := (V / 10000 % 10000000000)) hs11 (mulE t10 (bdK10 _)) (bdK10 _) e3, dvK4 V]; exact stK11 _
  refine f_lloadN A72 d9_78 (pc' := 79) rfl rfl ?_
  refine f_ldc2J A72 d9_79 (pc' := 82) rfl (wd hw 91 rfl) ?_
  refine f_lmul A72 d9_82 (pc' := 83) rfl (s10 * (10 : Int64)) rfl ?_
  refine f_iload A72 d9_83 (pc' := 85) rfl rfl ?_
  refine f_bipush A72 d9_85 (pc' := 87) rfl 48 rfl ?_
  refine f_isub A72 d9_87 (pc' := 88) rfl (c3 - (48 : Int32)) rfl ?_
  refine f_i2l A72 d9_88 (pc' := 89) rfl ((c3 - (48 : Int32)).toInt64) rfl ?_
  refine f_ladd A72 d9_89 (pc' := 90) rfl s11 hs11 ?_
  refine f_lstoreN A72 d9_90 (pc' := 91) rfl (L' := #[.val (.ref x), .val (.int (12 : Int32)), .val (.long s11), .second, .val (.int (10 : Int32)), .val (.int c3)]) rfl ?_
  refine f_iinc A72 d9_91 (pc' := 94) rfl rfl (11 : Int32) (by decide) (L' := #[.val (.ref x), .val (.int (12 : Int32)), .val (.long s11), .second, .val (.int (11 : Int32)), .val (.int c3)]) rfl ?_
  refine f_goto A72 d9_94 (pc' := 37) (by decide) (by decide) ?_
  refine f_iload A72 d9_37 (pc' := 39) rfl rfl ?_
  refine f_aloadN A72 d9_39 (pc' := 40) rfl rfl rfl ?_
  refine f_callV A72 (a := x) d9_40 (pc' := 43) rfl (wd hw 59 rfl) (wd hw 60 rfl) (nfS A72 (wd hw 62 rfl)) (wd hw 62 rfl) (wd hw 61 rfl) (by decide) F.exa pd0 [] [(.int (11 : Int32))] rfl rfl rfl 1 (Nat.le_of_eq rfl) (payLen (W := 1) A72 hw (wd hw 21 rfl) F O2 P5 (by decide) (by decide)) (kc := 0) (ks := 0) (by decide) (by decide) all0 (fun q => nomatch q) fun v73 T73 h73 L73 A73 K73 q73 => ?_
  obtain ⟨rfl, hh73⟩ := q73
  obtain rfl := hh73.symm
  show Wp pG e below _ T73 (mkF m 43 _ [(.int (15 : Int32)), (.int (11 : Int32))])
  refine f_icN A73 d9_43 (tlt (by decide : (11 : Int32) < (15 : Int32))).2.1 (pc' := 46) rfl ?_
  refine f_aloadN A73 d9_46 (pc' := 47) rfl rfl rfl ?_
  refine f_iload A73 d9_47 (pc' := 49) rfl rfl ?_
  refine f_callV A73 (a := x) d9_49 (pc' := 52) rfl (wd hw 69 rfl) (wd hw 70 rfl) (nfS A73 (wd hw 72 rfl)) (wd hw 72 rfl) (wd hw 71 rfl) (by decide) F.exa pd1 [(.int (11 : Int32))] [] rfl rfl rfl 0 (Nat.le_of_eq rfl) (payCh (W := 0) A73 hw (wd hw 21 rfl) F (fun c hc => (lat c hc).2) O2 P5 O4 rG3 11 (Nat.le_of_ble_eq_true rfl) rfl (by decide) (by decide)) (kc := 0) (ks := 0) (by decide) (by decide) all0 (fun q => nomatch q) fun v74 T74 h74 L74 A74 K74 q74 => ?_
  obtain ⟨rfl, hh74⟩ := q74
  obtain rfl := hh74.symm
  show Wp pG e below _ T74 (mkF m 52 _ [(.int c2)])
  refine f_istore A74 d9_52 (pc' := 54) rfl (L' := #[.val (.ref x), .val (.int (12 : Int32)), .val (.long s11), .second, .val (.int (11 : Int32)), .val (.int c2)]) rfl ?_
  refine f_iload A74 d9_54 (pc' := 56) rfl rfl ?_
  refine f_iloadN A74 d9_56 (pc' := 57) rfl rfl ?_
  refine f_icN A74 d9_57 (feq (by decide : ¬ (11 : Int32) = (12 : Int32))).1 (pc' := 60) rfl ?_
  refine f_iload A74 d9_60 (pc' := 62) rfl rfl ?_
  refine f_bipush A74 d9_62 (pc' := 64) rfl 48 rfl ?_
  refine f_icN A74 d9_64 (flt (ge48 e2)).1 (pc' := 67) rfl ?_
  refine f_iload A74 d9_67 (pc' := 69) rfl rfl ?_
  refine f_bipush A74 d9_69 (pc' := 71) rfl 57 rfl ?_
  refine f_icY A74 d9_71 (flt (le57 e2)).2.2.2 (pc' := 78) (by decide) (by decide) ?_
  obtain ⟨s12, hs12⟩ : ∃ z, (s11 * (10 : Int64)) + (c2 - (48 : Int32)).toInt64 = z := ⟨_, rfl⟩
  have t12 : s12.toInt = V / 100 % 1000000000000 := by rw [accE (A := (V / 1000 % 100000000000)) hs12 (mulE t11 (bdK11 _)) (bdK11 _) e2, dvK3 V]; exact stK12 _
  refine f_lloadN A74 d9_78 (pc' := 79) rfl rfl ?_
  refine f_ldc2J A74 d9_79 (pc' := 82) rfl (wd hw 91 rfl) ?_
  refine f_lmul A74 d9_82 (pc' := 83) rfl (s11 * (10 : Int64)) rfl ?_
  refine f_iload A74 d9_83 (pc' := 85) rfl rfl ?_
  refine f_bipush A74 d9_85 (pc' := 87) rfl 48 rfl ?_
  refine f_isub A74 d9_87 (pc' := 88) rfl (c2 - (48 : Int32)) rfl ?_
  refine f_i2l A74 d9_88 (pc' := 89) rfl ((c2 - (48 : Int32)).toInt64) rfl ?_
  refine f_ladd A74 d9_89 (pc' := 90) rfl s12 hs12 ?_
  refine f_lstoreN A74 d9_90 (pc' := 91) rfl (L' := #[.val (.ref x), .val (.int (12 : Int32)), .val (.long s12), .second, .val (.int (11 : Int32)), .val (.int c2)]) rfl ?_
  refine f_iinc A74 d9_91 (pc' := 94) rfl rfl (12 : Int32) (by decide) (L' := #[.val (.ref x), .val (.int (12 : Int32)), .val (.long s12), .second, .val (.int (12 : Int32)), .val (.int c2)]) rfl ?_
  refine f_goto A74 d9_94 (pc' := 37) (by decide) (by decide) ?_
  refine f_iload A74 d9_37 (pc' := 39) rfl rfl ?_
  refine f_aloadN A74 d9_39 (pc' := 40) rfl rfl rfl ?_
  refine f_callV A74 (a := x) d9_40 (pc' := 43) rfl (wd hw 59 rfl) (wd hw 60 rfl) (nfS A74 (wd hw 62 rfl)) (wd hw 62 rfl) (wd hw 61 rfl) (by decide) F.exa pd0 [] [(.int (12 : Int32))] rfl rfl rfl 1 (Nat.le_of_eq rfl) (payLen (W := 1) A74 hw (wd hw 21 rfl) F O2 P5 (by decide) (by decide)) (kc := 0) (ks := 0) (by decide) (by decide) all0 (fun q => nomatch q) fun v75 T75 h75 L75 A75 K75 q75 => ?_
  obtain ⟨rfl, hh75⟩ := q75
  obtain rfl := hh75.symm
  show Wp pG e below _ T75 (mkF m 43 _ [(.int (15 : Int32)), (.int (12 : Int32))])
  refine f_icN A75 d9_43 (tlt (by decide : (12 : Int32) < (15 : Int32))).2.1 (pc' := 46) rfl ?_
  refine f_aloadN A75 d9_46 (pc' := 47) rfl rfl rfl ?_
  refine f_iload A75 d9_47 (pc' := 49) rfl rfl ?_
  refine f_callV A75 (a := x) d9_49 (pc' := 52) rfl (wd hw 69 rfl) (wd hw 70 rfl) (nfS A75 (wd hw 72 rfl)) (wd hw 72 rfl) (wd hw 71 rfl) (by decide) F.exa pd1 [(.int (12 : Int32))] [] rfl rfl rfl 0 (Nat.le_of_eq rfl) (payCh (W := 0) A75 hw (wd hw 21 rfl) F (fun c hc => (lat c hc).2) O2 P5 O4 rG3 12 (Nat.le_of_ble_eq_true rfl) rfl (by decide) (by decide)) (kc := 0) (ks := 0) (by decide) (by decide) all0 (fun q => nomatch q) fun v76 T76 h76 L76 A76 K76 q76 => ?_
  obtain ⟨rfl, hh76⟩ := q76
  obtain rfl := hh76.symm
  show Wp pG e below _ T76 (mkF m 52 _ [(.int (46 : Int32))])
  refine f_istore A76 d9_52 (pc' := 54) rfl (L' := #[.val (.ref x), .val (.int (12 : Int32)), .val (.long s12), .second, .val (.int (12 : Int32)), .val (.int (46 : Int32))]) rfl ?_
  refine f_iload A76 d9_54 (pc' := 56) rfl rfl ?_
  refine f_iloadN A76 d9_56 (pc' := 57) rfl rfl ?_
  refine f_icY A76 d9_57 (teq (by decide : (12 : Int32) = (12 : Int32))).1 (pc' := 91) (by decide) (by decide) ?_
  refine f_iinc A76 d9_91 (pc' := 94) rfl rfl (13 : Int32) (by decide) (L' := #[.val (.ref x), .val (.int (12 : Int32)), .val (.long s12), .second, .val (.int (13 : Int32)), .val (.int (46 : Int32))]) rfl ?_
  refine f_goto A76 d9_94 (pc' := 37) (by decide) (by decide) ?_
  refine f_iload A76 d9_37 (pc' := 39) rfl rfl ?_
  refine f_aloadN A76 d9_39 (pc' := 40) rfl rfl rfl ?_
  refine f_callV A76 (a := x) d9_40 (pc' := 43) rfl (wd hw 59 rfl) (wd hw 60 rfl) (nfS A76 (wd hw 62 rfl)) (wd hw 62 rfl) (wd hw 61 rfl) (by decide) F.exa pd0 [] [(.int (13 : Int32))] rfl rfl rfl 1 (Nat.le_of_eq rfl) (payLen (W := 1) A76 hw (wd hw 21 rfl) F O2 P5 (by decide) (by decide)) (kc := 0) (ks := 0) (by decide) (by decide) all0 (fun q => nomatch q) fun v77 T77 h77 L77 A77 K77 q77 => ?_
  obtain ⟨rfl, hh77⟩ := q77
  obtain rfl := hh77.symm
  show Wp pG e below _ T77 (mkF m 43 _ [(.int (15 : Int32)), (.int (13 : Int32))])
  refine f_icN A77 d9_43 (tlt (by decide : (13 : Int32) < (15 : Int32))).2.1 (pc' := 46) rfl ?_
  refine f_aloadN A77 d9_46 (pc' := 47) rfl rfl rfl ?_
  refine f_iload A77 d9_47 (pc' := 49) rfl rfl ?_
  refine f_callV A77 (a := x) d9_49 (pc' := 52) rfl (wd hw 69 rfl) (wd hw 70 rfl) (nfS A77 (wd hw 72 rfl)) (wd hw 72 rfl) (wd hw 71 rfl) (by decide) F.exa pd1 [(.int (13 : Int32))] [] rfl rfl rfl 0 (Nat.le_of_eq rfl) (payCh (W := 0) A77 hw (wd hw 21 rfl) F (fun c hc => (lat c hc).2) O2 P5 O4 rG3 13 (Nat.le_of_ble_eq_true rfl) rfl (by decide) (by decide)) (kc := 0) (ks := 0) (by decide) (by decide) all0 (fun q => nomatch q) fun v78 T78 h78 L78 A78 K78 q78 => ?_
  obtain ⟨rfl, hh78⟩ := q78
  obtain rfl := hh78.symm
  show Wp pG e below _ T78 (mkF m 52 _ [(.int c1)])
  refine f_istore A78 d9_52 (pc' := 54) rfl (L' := #[.val (.ref x), .val (.int (12 : Int32)), .val (.long s12), .second, .val (.int (13 : Int32)), .val (.int c1)]) rfl ?_
  refine f_iload A78 d9_54 (pc' := 56) rfl rfl ?_
  refine f_iloadN A78 d9_56 (pc' := 57) rfl rfl ?_
  refine f_icN A78 d9_57 (feq (by decide : ¬ (13 : Int32) = (12 : Int32))).1 (pc' := 60) rfl ?_
  refine f_iload A78 d9_60 (pc' := 62) rfl rfl ?_
  refine f_bipush A78 d9_62 (pc' := 64) rfl 48 rfl ?_
  refine f_icN A78 d9_64 (flt (ge48 e1)).1 (pc' := 67) rfl ?_
  refine f_iload A78 d9_67 (pc' := 69) rfl rfl ?_
  refine f_bipush A78 d9_69 (pc' := 71) rfl 57 rfl ?_
  refine f_icY A78 d9_71 (flt (le57 e1)).2.2.2 (pc' := 78) (by decide) (by decide) ?_
  obtain ⟨s13, hs13⟩ : ∃ z, (s12 * (10 : Int64)) + (c1 - (48 : Int32)).toInt64 = z := ⟨_, rfl⟩
  have t13 : s13.toInt = V / 10 % 10000000000000 := by rw [accE (A := (V / 100 % 1000000000000)) hs13 (mulE t12 (bdK12 _)) (bdK12 _) e1, dvK2 V]; exact stK13 _
  refine f_lloadN A78 d9_78 (pc' := 79) rfl rfl ?_
  refine f_ldc2J A78 d9_79 (pc' := 82) rfl (wd hw 91 rfl) ?_
  refine f_lmul A78 d9_82 (pc' := 83) rfl (s12 * (10 : Int64)) rfl ?_
  refine f_iload A78 d9_83 (pc' := 85) rfl rfl ?_
  refine f_bipush A78 d9_85 (pc' := 87) rfl 48 rfl ?_
  refine f_isub A78 d9_87 (pc' := 88) rfl (c1 - (48 : Int32)) rfl ?_
  refine f_i2l A78 d9_88 (pc' := 89) rfl ((c1 - (48 : Int32)).toInt64) rfl ?_
  refine f_ladd A78 d9_89 (pc' := 90) rfl s13 hs13 ?_
  refine f_lstoreN A78 d9_90 (pc' := 91) rfl (L' := #[.val (.ref x), .val (.int (12 : Int32)), .val (.long s13), .second, .val (.int (13 : Int32)), .val (.int c1)]) rfl ?_
  refine f_iinc A78 d9_91 (pc' := 94) rfl rfl (14 : Int32) (by decide) (L' := #[.val (.ref x), .val (.int (12 : Int32)), .val (.long s13), .second, .val (.int (14 : Int32)), .val (.int c1)]) rfl ?_
  refine f_goto A78 d9_94 (pc' := 37) (by decide) (by decide) ?_
  refine f_iload A78 d9_37 (pc' := 39) rfl rfl ?_
  refine f_aloadN A78 d9_39 (pc' := 40) rfl rfl rfl ?_
  refine f_callV A78 (a := x) d9_40 (pc' := 43) rfl (wd hw 59 rfl) (wd hw 60 rfl) (nfS A78 (wd hw 62 rfl)) (wd hw 62 rfl) (wd hw 61 rfl) (by decide) F.exa pd0 [] [(.int (14 : Int32))] rfl rfl rfl 1 (Nat.le_of_eq rfl) (payLen (W := 1) A78 hw (wd hw 21 rfl) F O2 P5 (by decide) (by decide)) (kc := 0) (ks := 0) (by decide) (by decide) all0 (fun q => nomatch q) fun v79 T79 h79 L79 A79 K79 q79 => ?_
  obtain ⟨rfl, hh79⟩ := q79
  obtain rfl := hh79.symm
  show Wp pG e below _ T79 (mkF m 43 _ [(.int (15 : Int32)), (.int (14 : Int32))])
  refine f_icN A79 d9_43 (tlt (by decide : (14 : Int32) < (15 : Int32))).2.1 (pc' := 46) rfl ?_
  refine f_aloadN A79 d9_46 (pc' := 47) rfl rfl rfl ?_
  refine f_iload A79 d9_47 (pc' := 49) rfl rfl ?_
  refine f_callV A79 (a := x) d9_49 (pc' := 52) rfl (wd hw 69 rfl) (wd hw 70 rfl) (nfS A79 (wd hw 72 rfl)) (wd hw 72 rfl) (wd hw 71 rfl) (by decide) F.exa pd1 [(.int (14 : Int32))] [] rfl rfl rfl 0 (Nat.le_of_eq rfl) (payCh (W := 0) A79 hw (wd hw 21 rfl) F (fun c hc => (lat c hc).2) O2 P5 O4 rG3 14 (Nat.le_of_ble_eq_true rfl) rfl (by decide) (by decide)) (kc := 0) (ks := 0) (by decide) (by decide) all0 (fun q => nomatch q) fun v80 T80 h80 L80 A80 K80 q80 => ?_
  obtain ⟨rfl, hh80⟩ := q80
  obtain rfl := hh80.symm
  show Wp pG e below _ T80 (mkF m 52 _ [(.int c0)])
  refine f_istore A80 d9_52 (pc' := 54) rfl (L' := #[.val (.ref x), .val (.int (12 : Int32)), .val (.long s13), .second, .val (.int (14 : Int32)), .val (.int c0)]) rfl ?_
  refine f_iload A80 d9_54 (pc' := 56) rfl rfl ?_
  refine f_iloadN A80 d9_56 (pc' := 57) rfl rfl ?_
  refine f_icN A80 d9_57 (feq (by decide : ¬ (14 : Int32) = (12 : Int32))).1 (pc' := 60) rfl ?_
  refine f_iload A80 d9_60 (pc' := 62) rfl rfl ?_
  refine f_bipush A80 d9_62 (pc' := 64) rfl 48 rfl ?_
  refine f_icN A80 d9_64 (flt (ge48 e0)).1 (pc' := 67) rfl ?_
  refine f_iload A80 d9_67 (pc' := 69) rfl rfl ?_
  refine f_bipush A80 d9_69 (pc' := 71) rfl 57 rfl ?_
  refine f_icY A80 d9_71 (flt (le57 e0)).2.2.2 (pc' := 78) (by decide) (by decide) ?_
  obtain ⟨s14, hs14⟩ : ∃ z, (s13 * (10 : Int64)) + (c0 - (48 : Int32)).toInt64 = z := ⟨_, rfl⟩
  have t14 : s14.toInt = V / 1 % 100000000000000 := by rw [accE (A := (V / 10 % 10000000000000)) hs14 (mulE t13 (bdK13 _)) (bdK13 _) e0, dvK1 V]; exact stK14 _
  refine f_lloadN A80 d9_78 (pc' := 79) rfl rfl ?_
  refine f_ldc2J A80 d9_79 (pc' := 82) rfl (wd hw 91 rfl) ?_
  refine f_lmul A80 d9_82 (pc' := 83) rfl (s13 * (10 : Int64)) rfl ?_
  refine f_iload A80 d9_83 (pc' := 85) rfl rfl ?_
  refine f_bipush A80 d9_85 (pc' := 87) rfl 48 rfl ?_
  refine f_isub A80 d9_87 (pc' := 88) rfl (c0 - (48 : Int32)) rfl ?_
  refine f_i2l A80 d9_88 (pc' := 89) rfl ((c0 - (48 : Int32)).toInt64) rfl ?_
  refine f_ladd A80 d9_89 (pc' := 90) rfl s14 hs14 ?_
  refine f_lstoreN A80 d9_90 (pc' := 91) rfl (L' := #[.val (.ref x), .val (.int (12 : Int32)), .val (.long s14), .second, .val (.int (14 : Int32)), .val (.int c0)]) rfl ?_
  refine f_iinc A80 d9_91 (pc' := 94) rfl rfl (15 : Int32) (by decide) (L' := #[.val (.ref x), .val (.int (12 : Int32)), .val (.long s14), .second, .val (.int (15 : Int32)), .val (.int c0)]) rfl ?_
  refine f_goto A80 d9_94 (pc' := 37) (by decide) (by decide) ?_
  refine f_iload A80 d9_37 (pc' := 39) rfl rfl ?_
  refine f_aloadN A80 d9_39 (pc' := 40) rfl rfl rfl ?_
  refine f_callV A80 (a := x) d9_40 (pc' := 43) rfl (wd hw 59 rfl) (wd hw 60 rfl) (nfS A80 (wd hw 62 rfl)) (wd hw 62 rfl) (wd hw 61 rfl) (by decide) F.exa pd0 [] [(.int (15 : Int32))] rfl rfl rfl 1 (Nat.le_of_eq rfl) (payLen (W := 1) A80 hw (wd hw 21 rfl) F O2 P5 (by decide) (by decide)) (kc := 0) (ks := 0) (by decide) (by decide) all0 (fun q => nomatch q) fun v81 T81 h81 L81 A81 K81 q81 => ?_
  obtain ⟨rfl, hh81⟩ := q81
  obtain rfl := hh81.symm
  show Wp pG e below _ T81 (mkF m 43 _ [(.int (15 : Int32)), (.int (15 : Int32))])
  refine f_icY A81 d9_43 (flt (by decide : ¬ (15 : Int32) < (15 : Int32))).2.1 (pc' := 97) (by decide) (by decide) ?_
  refine f_lloadN A81 d9_97 (pc' := 98) rfl rfl ?_
  exact f_retJN A81 hlk hret d9_98 (by decide) (by decide) K0 ⟨s14, rfl, by rw [t14, Int.ediv_one], rfl⟩
set_option maxRecDepth 65536 in
set_option maxHeartbeats 40000000 in
theorem m_nn15 (l : Launch) (Z : State) (a0 : Array Value) (hw : ∀ d ∈ tables_1, d.before a0 Z = true) (u x t : Addr) (V : Int) (c13 c12 c11 c10 c9 c8 c7 c6 c5 c4 c3 c2 c1 c0 : Int32) (zc : Int32) (O2 : Sta Z Z.heap "java/lang/String" "COMPACT_STRINGS" "Z" (.int zc)) (P5 : ¬ zc = 0) (fm : Value) (O4 : Sta Z Z.heap "jdk/internal/util/Preconditions" "SIOOBE_FORMATTER" "Ljava/util/function/BiFunction;" fm) (rG3 : fm.isRef = true) (h0 : Heap) (n0 : Nat) (ho : Old Z n0 h0) (F : Str Z h0 x t [c13, c12, c11, c10, c9, c8, c7, c6, c5, c4, c3, c2, (46 : Int32), c1, c0]) (lat : ∀ c ∈ [c13, c12, c11, c10, c9, c8, c7, c6, c5, c4, c3, c2, (46 : Int32), c1, c0], ¬ c < 0 ∧ ¬ (255 : Int32) < c) (e13 : c13.toInt = 48 + V / 10000000000000 % 10) (e12 : c12.toInt = 48 + V / 1000000000000 % 10) (e11 : c11.toInt = 48 + V / 100000000000 % 10) (e10 : c10.toInt = 48 + V / 10000000000 % 10) (e9 : c9.toInt = 48 + V / 1000000000 % 10) (e8 : c8.toInt = 48 + V / 100000000 % 10) (e7 : c7.toInt = 48 + V / 10000000 % 10) (e6 : c6.toInt = 48 + V / 1000000 % 10) (e5 : c5.toInt = 48 + V / 100000 % 10) (e4 : c4.toInt = 48 + V / 10000 % 10) (e3 : c3.toInt = 48 + V / 1000 % 10) (e2 : c2.toInt = 48 + V / 100 % 10) (e1 : c1.toInt = 48 + V / 10 % 10) (e0 : c0.toInt = 48 + V / 1 % 10) :
    CN l (⟨"com/example/quittance/quittance/Money", "nonNegative", "(Ljava/lang/String;Ljava/lang/String;)J"⟩ : MethodName) prog_6_method_3_code 4 (some .long) [] ({ frames := 6, cells := 0, slots := 0, locals := 90 } : Room) Z n0 h0 #[(.ref u), (.ref x)] [] (fun v h => ∃ r : Int64, v = some (.long r) ∧ r.toInt = V % 100000000000000 ∧ h = h0) := by
  refine CN.walk (plainFor_of_name pn1) ho (L0 := #[.val (.ref u), .val (.ref x), .unset, .unset]) (fun m => rfl) ?_
  intro pG e s m below meth cO T hlk hret hnm A0
  have K0 : Keep h0 h0 [] := Keep.refl _ _
  refine f_aloadN A0 d8_0 (pc' := 1) rfl rfl rfl ?_
  refine f_callS A0 d8_1 (pc' := 4) rfl (wd hw 56 rfl) (wd hw 57 rfl) (wd hw 54 rfl) (wd hw 58 rfl) (by decide) pd2 [(.ref x)] [] rfl rfl rfl 0 (Nat.le_of_eq rfl) (CN.pay (W := 0) A0 (m_cents15 l Z a0 hw x t V c13 c12 c11 c10 c9 c8 c7 c6 c5 c4 c3 c2 c1 c0 zc O2 P5 fm O4 rG3 h0 n0 A0.old F lat e13 e12 e11 e10 e9 e8 e7 e6 e5 e4 e3 e2 e1 e0) (wd hw 58 rfl) (wd hw 54 rfl) (by decide) (by decide)) (kc := 0) (ks := 0) (by decide) (by decide) all0 (fun q => nomatch q) fun v82 T82 h82 L82 A82 K82 q82 => ?_
  obtain ⟨r82, rfl, hr82, hh82⟩ := q82
  obtain rfl := hh82.symm
  show Wp pG e below _ T82 (mkF m 4 _ [(.long r82)])
  refine f_lstoreN A82 d8_4 (pc' := 5) rfl (L' := #[.val (.ref u), .val (.ref x), .val (.long r82), .second]) rfl ?_
  refine f_lloadN A82 d8_5 (pc' := 6) rfl rfl ?_
  refine f_lconst A82 d8_6 (pc' := 7) rfl 0 rfl ?_
  refine f_lcmp A82 d8_7 (pc' := 8) rfl (lcmpW r82 (0 : Int64)) rfl ?_
  refine f_ifN A82 d8_8 ((if0 _ _).trans (flt (nneg (by decide) hr82)).1) (pc' := 11) rfl ?_
  refine f_lloadN A82 d8_11 (pc' := 12) rfl rfl ?_
  exact f_retJN A82 hlk hret d8_12 (by decide) (by decide) K0 ⟨r82, rfl, hr82, rfl⟩
theorem lt4 {x k : Int32} (h : x &&& 3 = k) : k = 0 ∨ k = 1 ∨ k = 2 ∨ k = 3 := by
  have q := c_and x 3 (by decide); rw [h] at q; have e : (3 : Int32).toInt = 3 := rfl
  have : k.toInt = 0 ∨ k.toInt = 1 ∨ k.toInt = 2 ∨ k.toInt = 3 := by omega
  rcases this with z | z | z | z
  · exact Or.inl (Int32.toInt_inj.mp z)
  · exact Or.inr (Or.inl (Int32.toInt_inj.mp z))
  · exact Or.inr (Or.inr (Or.inl (Int32.toInt_inj.mp z)))
  · exact Or.inr (Or.inr (Or.inr (Int32.toInt_inj.mp z)))
theorem pd3 : parseMethodDescriptor "(JJ)C" = some ⟨[.long, .long], some .char⟩ := by decide +kernel
theorem pd4 : parseMethodDescriptor "([C)V" = some ⟨[(.array .char)], none⟩ := by decide +kernel
theorem pd5 : parseMethodDescriptor "(Ljava/lang/String;Ljava/lang/String;)J" = some ⟨[(.object "java/lang/String"), (.object "java/lang/String")], some .long⟩ := by decide +kernel
set_option maxRecDepth 65536 in
set_option maxHeartbeats 40000000 in
theorem m_law (l : Launch) (Z : State) (a0 : Array Value) (hw : ∀ d ∈ tables_1, d.before a0 Z = true) (ws : List Jvm.Cond) (a : Int64) (shape : Int32) (zc : Int32) (O2 : Sta Z Z.heap "java/lang/String" "COMPACT_STRINGS" "Z" (.int zc)) (P5 : ¬ zc = 0) (fm : Value) (O4 : Sta Z Z.heap "jdk/internal/util/Preconditions" "SIOOBE_FORMATTER" "Ljava/util/function/BiFunction;" fm) (rG3 : fm.isRef = true) (h0 : Heap) (n0 : Nat) (ho : Old Z n0 h0) (hEL : EW Z a0 ELs)  :
    CW l x code maxLocals ret ws room_1 Z ELs [] n0 h0 #[(.long a), (.int shape)] [] (fun v h => v = some (.int 1)) := by
  refine CW.walk (plainFor_of_name pn0) ho (L0 := #[.val (.long a), .second, .val (.int shape), .unset, .unset, .unset, .unset, .unset, .unset, .unset, .unset, .unset, .unset, .unset]) (fun m => rfl) ?_
  intro pG e s m below meth cO T hlk hret hnm hSL A0
  have K0 : Keep h0 h0 [] := Keep.refl _ _
  obtain ⟨v, hv⟩ : ∃ v, (a &&& 9223372036854775807) % 100000000000000 = v := ⟨_, rfl⟩
  have hv0 : 0 ≤ v.toInt ∧ v.toInt < 100000000000000 := by
    have q := c_maskL a 9223372036854775807 63 (by decide) (by decide)
    have r := pos_rem (x := a &&& 9223372036854775807) (y := 100000000000000) (d := 100000000000000) (by rw [q]; omega) rfl
    rw [hv] at r; rw [r]; omega
  obtain ⟨V, hV⟩ : ∃ V, v.toInt = V := ⟨_, rfl⟩
  obtain ⟨c0, hc0⟩ : ∃ z, 48 + ((v / 1) % 10).toInt32 = z := ⟨_, rfl⟩
  have e0 : c0.toInt = 48 + V / 1 % 10 := hV ▸ digE hv0.1 (p := 1) (P := 1) rfl (by decide) (by decide) hc0
  obtain ⟨c1, hc1⟩ : ∃ z, 48 + ((v / 10) % 10).toInt32 = z := ⟨_, rfl⟩
  have e1 : c1.toInt = 48 + V / 10 % 10 := hV ▸ digE hv0.1 (p := 10) (P := 10) rfl (by decide) (by decide) hc1
  obtain ⟨c2, hc2⟩ : ∃ z, 48 + ((v / 100) % 10).toInt32 = z := ⟨_, rfl⟩
  have e2 : c2.toInt = 48 + V / 100 % 10 := hV ▸ digE hv0.1 (p := 100) (P := 100) rfl (by decide) (by decide) hc2
  obtain ⟨c3, hc3⟩ : ∃ z, 48 + ((v / 1000) % 10).toInt32 = z := ⟨_, rfl⟩
  have e3 : c3.toInt = 48 + V / 1000 % 10 := hV ▸ digE hv0.1 (p := 1000) (P := 1000) rfl (by decide) (by decide) hc3
  obtain ⟨c4, hc4⟩ : ∃ z, 48 + ((v / 10000) % 10).toInt32 = z := ⟨_, rfl⟩
  have e4 : c4.toInt = 48 + V / 10000 % 10 := hV ▸ digE hv0.1 (p := 10000) (P := 10000) rfl (by decide) (by decide) hc4
  obtain ⟨c5, hc5⟩ : ∃ z, 48 + ((v / 100000) % 10).toInt32 = z := ⟨_, rfl⟩
  have e5 : c5.toInt = 48 + V / 100000 % 10 := hV ▸ digE hv0.1 (p := 100000) (P := 100000) rfl (by decide) (by decide) hc5
  obtain ⟨c6, hc6⟩ : ∃ z, 48 + ((v / 1000000) % 10).toInt32 = z := ⟨_, rfl⟩
  have e6 : c6.toInt = 48 + V / 1000000 % 10 := hV ▸ digE hv0.1 (p := 1000000) (P := 1000000) rfl (by decide) (by decide) hc6
  obtain ⟨c7, hc7⟩ : ∃ z, 48 + ((v / 10000000) % 10).toInt32 = z := ⟨_, rfl⟩
  have e7 : c7.toInt = 48 + V / 10000000 % 10 := hV ▸ digE hv0.1 (p := 10000000) (P := 10000000) rfl (by decide) (by decide) hc7
  obtain ⟨c8, hc8⟩ : ∃ z, 48 + ((v / 100000000) % 10).toInt32 = z := ⟨_, rfl⟩
  have e8 : c8.toInt = 48 + V / 100000000 % 10 := hV ▸ digE hv0.1 (p := 100000000) (P := 100000000) rfl (by decide) (by decide) hc8
  obtain ⟨c9, hc9⟩ : ∃ z, 48 + ((v / 1000000000) % 10).toInt32 = z := ⟨_, rfl⟩
  have e9 : c9.toInt = 48 + V / 1000000000 % 10 := hV ▸ digE hv0.1 (p := 1000000000) (P := 1000000000) rfl (by decide) (by decide) hc9
  obtain ⟨c10, hc10⟩ : ∃ z, 48 + ((v / 10000000000) % 10).toInt32 = z := ⟨_, rfl⟩
  have e10 : c10.toInt = 48 + V / 10000000000 % 10 := hV ▸ digE hv0.1 (p := 10000000000) (P := 10000000000) rfl (by decide) (by decide) hc10
  obtain ⟨c11, hc11⟩ : ∃ z, 48 + ((v / 100000000000) % 10).toInt32 = z := ⟨_, rfl⟩
  have e11 : c11.toInt = 48 + V / 100000000000 % 10 := hV ▸ digE hv0.1 (p := 100000000000) (P := 100000000000) rfl (by decide) (by decide) hc11
  obtain ⟨c12, hc12⟩ : ∃ z, 48 + ((v / 1000000000000) % 10).toInt32 = z := ⟨_, rfl⟩
  have e12 : c12.toInt = 48 + V / 1000000000000 % 10 := hV ▸ digE hv0.1 (p := 1000000000000) (P := 1000000000000) rfl (by decide) (by decide) hc12
  obtain ⟨c13, hc13⟩ : ∃ z, 48 + ((v / 10000000000000) % 10).toInt32 = z := ⟨_, rfl⟩
  have e13 : c13.toInt = 48 + V / 10000000000000 % 10 := hV ▸ digE hv0.1 (p := 10000000000000) (P := 10000000000000) rfl (by decide) (by decide) hc13
  obtain ⟨k, hk3⟩ : ∃ k, shape &&& 3 = k := ⟨_, rfl⟩
  have hk4 := lt4 hk3
  refine f_lloadN A0 at_0 (pc' := 1) rfl rfl ?_
  refine f_ldc2J A0 at_1 (pc' := 4) rfl (wd hw 0 rfl) ?_
  refine f_land A0 at_4 (pc' := 5) rfl (a &&& (9223372036854775807 : Int64)) rfl ?_
  refine f_ldc2J A0 at_5 (pc' := 8) rfl (wd hw 1 rfl) ?_
  refine f_lrem A0 at_8 (pc' := 9) rfl (by decide) v hv ?_
  refine f_lstoreN A0 at_9 (pc' := 10) rfl (L' := #[.val (.long a), .second, .val (.int shape), .val (.long v), .second, .unset, .unset, .unset, .unset, .unset, .unset, .unset, .unset, .unset]) rfl ?_
  refine f_iloadN A0 at_10 (pc' := 11) rfl rfl ?_
  refine f_iconst A0 at_11 (pc' := 12) rfl 3 rfl ?_
  refine f_iand A0 at_12 (pc' := 13) rfl k hk3 ?_
  refine f_istore A0 at_13 (pc' := 15) rfl (L' := #[.val (.long a), .second, .val (.int shape), .val (.long v), .second, .val (.int k), .unset, .unset, .unset, .unset, .unset, .unset, .unset, .unset]) rfl ?_
  refine f_iconst A0 at_15 (pc' := 16) rfl 4 rfl ?_
  refine f_newP A0 4 at_16 (pc' := 18) rfl (wd hw 2 rfl) (by decide) (by decide) (by decide) (by decide) (by decide) (ad := "[C") (by decide) fun a83 T83 h83 k83 g83 A83 E83 F83 X83 => ?_
  have z83 : n0 ≤ a83 := Nat.le_trans A0.sz (Nat.le_of_eq g83.symm)
  have y83 : h0.size ≤ a83 := Nat.le_trans K0.1 (Nat.le_of_eq g83.symm)
  have Q84 : Keep h0 h83 [] := K0.ext E83
  have V83 : Arv Z h83 a83 k83 .char (4 : Int32) [(.int (0 : Int32)), (.int (0 : Int32)), (.int (0 : Int32)), (.int (0 : Int32))] (.int (0 : Int32)) := F83.pad (pad_rep [] (.int (0 : Int32)) 4)
  refine f_astore A83 at_18 (pc' := 20) rfl rfl (L' := #[.val (.long a), .second, .val (.int shape), .val (.long v), .second, .val (.int k), .val (.ref a83), .unset, .unset, .unset, .unset, .unset, .unset, .unset]) rfl ?_
  refine f_aload A83 at_20 (pc' := 22) rfl rfl rfl ?_
  refine f_iconst A83 at_22 (pc' := 23) rfl 0 rfl ?_
  refine f_lloadN A83 at_23 (pc' := 24) rfl rfl ?_
  refine f_ldc2J A83 at_24 (pc' := 27) rfl (wd hw 3 rfl) ?_
  refine f_callS A83 at_27 (pc' := 30) rfl (wd hw 4 rfl) (wd hw 5 rfl) (wd hw 6 rfl) (wd hw 7 rfl) (by decide) pd3 [(.long v), (.long (100 : Int64))] [(.int (0 : Int32)), (.ref a83)] rfl rfl rfl 2 (Nat.le_of_eq rfl) (CN.pay (W := 2) A83 (m_d l Z a0 hw v (100 : Int64) c2 h83 n0 A83.old (by decide) hc2 (chE e2)) (wd hw 7 rfl) (wd hw 6 rfl) (by decide) (by decide)) (kc := 0) (ks := 0) (by decide) (by decide) all0 (fun _ => sf0) fun v85 T85 h85 L85 A85 K85 q85 => ?_
  obtain ⟨rfl, hh85⟩ := q85
  obtain rfl := hh85.symm
  show Wp pG e below _ T85 (mkF m 30 _ [(.int c2), (.int (0 : Int32)), (.ref a83)])
  refine f_castore A85 at_30 (pc' := 31) rfl V83 ⟨by decide, by decide⟩ 0 (by decide) (Nat.le_of_ble_eq_true rfl) c2 (nar_id (chR e2)) (vs' := [(.int c2), (.int (0 : Int32)), (.int (0 : Int32)), (.int (0 : Int32))]) rfl z83 (fun _ => (Safe.exa A85.hZ.alike X83 (by decide) (by decide))) fun T86 h86 A86 K86 V86 => ?_
  have Q87 : Keep h0 h86 [] := Q84.trans K86 (allS (Or.inr y83) all0)
  refine f_aload A86 at_31 (pc' := 33) rfl rfl rfl ?_
  refine f_iconst A86 at_33 (pc' := 34) rfl 1 rfl ?_
  refine f_bipush A86 at_34 (pc' := 36) rfl 46 rfl ?_
  have c89 := (X83.keep K86)
  refine f_castore A86 at_36 (pc' := 37) rfl V86 ⟨by decide, by decide⟩ 1 (by decide) (Nat.le_of_ble_eq_true rfl) (46 : Int32) (by decide) (vs' := [(.int c2), (.int (46 : Int32)), (.int (0 : Int32)), (.int (0 : Int32))]) rfl z83 (fun _ => (Safe.exa A86.hZ.alike c89 (by decide) (by decide))) fun T88 h88 A88 K88 V88 => ?_
  have Q90 : Keep h0 h88 [] := Q87.trans K88 (allS (Or.inr y83) all0)
  refine f_aload A88 at_37 (pc' := 39) rfl rfl rfl ?_
  refine f_iconst A88 at_39 (pc' := 40) rfl 2 rfl ?_
  refine f_lloadN A88 at_40 (pc' := 41) rfl rfl ?_
  refine f_ldc2J A88 at_41 (pc' := 44) rfl (wd hw 8 rfl) ?_
  refine f_callS A88 at_44 (pc' := 47) rfl (wd hw 4 rfl) (wd hw 5 rfl) (wd hw 6 rfl) (wd hw 7 rfl) (by decide) pd3 [(.long v), (.long (10 : Int64))] [(.int (2 : Int32)), (.ref a83)] rfl rfl rfl 2 (Nat.le_of_eq rfl) (CN.pay (W := 2) A88 (m_d l Z a0 hw v (10 : Int64) c1 h88 n0 A88.old (by decide) hc1 (chE e1)) (wd hw 7 rfl) (wd hw 6 rfl) (by decide) (by decide)) (kc := 0) (ks := 0) (by decide) (by decide) all0 (fun _ => sf0) fun v91 T91 h91 L91 A91 K91 q91 => ?_
  obtain ⟨rfl, hh91⟩ := q91
  obtain rfl := hh91.symm
  show Wp pG e below _ T91 (mkF m 47 _ [(.int c1), (.int (2 : Int32)), (.ref a83)])
  have c93 := (c89.keep K88)
  refine f_castore A91 at_47 (pc' := 48) rfl V88 ⟨by decide, by decide⟩ 2 (by decide) (Nat.le_of_ble_eq_true rfl) c1 (nar_id (chR e1)) (vs' := [(.int c2), (.int (46 : Int32)), (.int c1), (.int (0 : Int32))]) rfl z83 (fun _ => (Safe.exa A91.hZ.alike c93 (by decide) (by decide))) fun T92 h92 A92 K92 V92 => ?_
  have Q94 : Keep h0 h92 [] := Q90.trans K92 (allS (Or.inr y83) all0)
  refine f_aload A92 at_48 (pc' := 50) rfl rfl rfl ?_
  refine f_iconst A92 at_50 (pc' := 51) rfl 3 rfl ?_
  refine f_lloadN A92 at_51 (pc' := 52) rfl rfl ?_
  refine f_lconst A92 at_52 (pc' := 53) rfl 1 rfl ?_
  refine f_callS A92 at_53 (pc' := 56) rfl (wd hw 4 rfl) (wd hw 5 rfl) (wd hw 6 rfl) (wd hw 7 rfl) (by decide) pd3 [(.long v), (.long (1 : Int64))] [(.int (3 : Int32)), (.ref a83)] rfl rfl rfl 2 (Nat.le_of_eq rfl) (CN.pay (W := 2) A92 (m_d l Z a0 hw v (1 : Int64) c0 h92 n0 A92.old (by decide) hc0 (chE e0)) (wd hw 7 rfl) (wd hw 6 rfl) (by decide) (by decide)) (kc := 0) (ks := 0) (by decide) (by decide) all0 (fun _ => sf0) fun v95 T95 h95 L95 A95 K95 q95 => ?_
  obtain ⟨rfl, hh95⟩ := q95
  obtain rfl := hh95.symm
  show Wp pG e below _ T95 (mkF m 56 _ [(.int c0), (.int (3 : Int32)), (.ref a83)])
  have c97 := (c93.keep K92)
  refine f_castore A95 at_56 (pc' := 57) rfl V92 ⟨by decide, by decide⟩ 3 (by decide) (Nat.le_of_ble_eq_true rfl) c0 (nar_id (chR e0)) (vs' := [(.int c2), (.int (46 : Int32)), (.int c1), (.int c0)]) rfl z83 (fun _ => (Safe.exa A95.hZ.alike c97 (by decide) (by decide))) fun T96 h96 A96 K96 V96 => ?_
  have Q98 : Keep h0 h96 [] := Q94.trans K96 (allS (Or.inr y83) all0)
  refine f_iconst A96 at_57 (pc' := 58) rfl 5 rfl ?_
  refine f_newP A96 5 at_58 (pc' := 60) rfl (wd hw 2 rfl) (by decide) (by decide) (by decide) (by decide) (by decide) (ad := "[C") (by decide) fun a99 T99 h99 k99 g99 A99 E99 F99 X99 => ?_
  have z99 : n0 ≤ a99 := Nat.le_trans A96.sz (Nat.le_of_eq g99.symm)
  have y99 : h0.size ≤ a99 := Nat.le_trans Q98.1 (Nat.le_of_eq g99.symm)
  have Q100 : Keep h0 h99 [] := Q98.ext E99
  have V99 : Arv Z h99 a99 k99 .char (5 : Int32) [(.int (0 : Int32)), (.int (0 : Int32)), (.int (0 : Int32)), (.int (0 : Int32)), (.int (0 : Int32))] (.int (0 : Int32)) := F99.pad (pad_rep [] (.int (0 : Int32)) 5)
  refine f_astore A99 at_60 (pc' := 62) rfl rfl (L' := #[.val (.long a), .second, .val (.int shape), .val (.long v), .second, .val (.int k), .val (.ref a83), .val (.ref a99), .unset, .unset, .unset, .unset, .unset, .unset]) rfl ?_
  refine f_aload A99 at_62 (pc' := 64) rfl rfl rfl ?_
  refine f_iconst A99 at_64 (pc' := 65) rfl 0 rfl ?_
  refine f_lloadN A99 at_65 (pc' := 66) rfl rfl ?_
  refine f_ldc2J A99 at_66 (pc' := 69) rfl (wd hw 9 rfl) ?_
  refine f_callS A99 at_69 (pc' := 72) rfl (wd hw 4 rfl) (wd hw 5 rfl) (wd hw 6 rfl) (wd hw 7 rfl) (by decide) pd3 [(.long v), (.long (1000 : Int64))] [(.int (0 : Int32)), (.ref a99)] rfl rfl rfl 2 (Nat.le_of_eq rfl) (CN.pay (W := 2) A99 (m_d l Z a0 hw v (1000 : Int64) c3 h99 n0 A99.old (by decide) hc3 (chE e3)) (wd hw 7 rfl) (wd hw 6 rfl) (by decide) (by decide)) (kc := 0) (ks := 0) (by decide) (by decide) all0 (fun _ => sf0) fun v101 T101 h101 L101 A101 K101 q101 => ?_
  obtain ⟨rfl, hh101⟩ := q101
  obtain rfl := hh101.symm
  show Wp pG e below _ T101 (mkF m 72 _ [(.int c3), (.int (0 : Int32)), (.ref a99)])
  refine f_castore A101 at_72 (pc' := 73) rfl V99 ⟨by decide, by decide⟩ 0 (by decide) (Nat.le_of_ble_eq_true rfl) c3 (nar_id (chR e3)) (vs' := [(.int c3), (.int (0 : Int32)), (.int (0 : Int32)), (.int (0 : Int32)), (.int (0 : Int32))]) rfl z99 (fun _ => (Safe.exa A101.hZ.alike X99 (by decide) (by decide))) fun T102 h102 A102 K102 V102 => ?_
  have Q103 : Keep h0 h102 [] := Q100.trans K102 (allS (Or.inr y99) all0)
  refine f_aload A102 at_73 (pc' := 75) rfl rfl rfl ?_
  refine f_iconst A102 at_75 (pc' := 76) rfl 1 rfl ?_
  refine f_lloadN A102 at_76 (pc' := 77) rfl rfl ?_
  refine f_ldc2J A102 at_77 (pc' := 80) rfl (wd hw 3 rfl) ?_
  refine f_callS A102 at_80 (pc' := 83) rfl (wd hw 4 rfl) (wd hw 5 rfl) (wd hw 6 rfl) (wd hw 7 rfl) (by decide) pd3 [(.long v), (.long (100 : Int64))] [(.int (1 : Int32)), (.ref a99)] rfl rfl rfl 2 (Nat.le_of_eq rfl) (CN.pay (W := 2) A102 (m_d l Z a0 hw v (100 : Int64) c2 h102 n0 A102.old (by decide) hc2 (chE e2)) (wd hw 7 rfl) (wd hw 6 rfl) (by decide) (by decide)) (kc := 0) (ks := 0) (by decide) (by decide) all0 (fun _ => sf0) fun v104 T104 h104 L104 A104 K104 q104 => ?_
  obtain ⟨rfl, hh104⟩ := q104
  obtain rfl := hh104.symm
  show Wp pG e below _ T104 (mkF m 83 _ [(.int c2), (.int (1 : Int32)), (.ref a99)])
  have c106 := (X99.keep K102)
  refine f_castore A104 at_83 (pc' := 84) rfl V102 ⟨by decide, by decide⟩ 1 (by decide) (Nat.le_of_ble_eq_true rfl) c2 (nar_id (chR e2)) (vs' := [(.int c3), (.int c2), (.int (0 : Int32)), (.int (0 : Int32)), (.int (0 : Int32))]) rfl z99 (fun _ => (Safe.exa A104.hZ.alike c106 (by decide) (by decide))) fun T105 h105 A105 K105 V105 => ?_
  have Q107 : Keep h0 h105 [] := Q103.trans K105 (allS (Or.inr y99) all0)
  refine f_aload A105 at_84 (pc' := 86) rfl rfl rfl ?_
  refine f_iconst A105 at_86 (pc' := 87) rfl 2 rfl ?_
  refine f_bipush A105 at_87 (pc' := 89) rfl 46 rfl ?_
  have c109 := (c106.keep K105)
  refine f_castore A105 at_89 (pc' := 90) rfl V105 ⟨by decide, by decide⟩ 2 (by decide) (Nat.le_of_ble_eq_true rfl) (46 : Int32) (by decide) (vs' := [(.int c3), (.int c2), (.int (46 : Int32)), (.int (0 : Int32)), (.int (0 : Int32))]) rfl z99 (fun _ => (Safe.exa A105.hZ.alike c109 (by decide) (by decide))) fun T108 h108 A108 K108 V108 => ?_
  have Q110 : Keep h0 h108 [] := Q107.trans K108 (allS (Or.inr y99) all0)
  refine f_aload A108 at_90 (pc' := 92) rfl rfl rfl ?_
  refine f_iconst A108 at_92 (pc' := 93) rfl 3 rfl ?_
  refine f_lloadN A108 at_93 (pc' := 94) rfl rfl ?_
  refine f_ldc2J A108 at_94 (pc' := 97) rfl (wd hw 8 rfl) ?_
  refine f_callS A108 at_97 (pc' := 100) rfl (wd hw 4 rfl) (wd hw 5 rfl) (wd hw 6 rfl) (wd hw 7 rfl) (by decide) pd3 [(.long v), (.long (10 : Int64))] [(.int (3 : Int32)), (.ref a99)] rfl rfl rfl 2 (Nat.le_of_eq rfl) (CN.pay (W := 2) A108 (m_d l Z a0 hw v (10 : Int64) c1 h108 n0 A108.old (by decide) hc1 (chE e1)) (wd hw 7 rfl) (wd hw 6 rfl) (by decide) (by decide)) (kc := 0) (ks := 0) (by decide) (by decide) all0 (fun _ => sf0) fun v111 T111 h111 L111 A111 K111 q111 => ?_
  obtain ⟨rfl, hh111⟩ := q111
  obtain rfl := hh111.symm
  show Wp pG e below _ T111 (mkF m 100 _ [(.int c1), (.int (3 : Int32)), (.ref a99)])
  have c113 := (c109.keep K108)
  refine f_castore A111 at_100 (pc' := 101) rfl V108 ⟨by decide, by decide⟩ 3 (by decide) (Nat.le_of_ble_eq_true rfl) c1 (nar_id (chR e1)) (vs' := [(.int c3), (.int c2), (.int (46 : Int32)), (.int c1), (.int (0 : Int32))]) rfl z99 (fun _ => (Safe.exa A111.hZ.alike c113 (by decide) (by decide))) fun T112 h112 A112 K112 V112 => ?_
  have Q114 : Keep h0 h112 [] := Q110.trans K112 (allS (Or.inr y99) all0)
  refine f_aload A112 at_101 (pc' := 103) rfl rfl rfl ?_
  refine f_iconst A112 at_103 (pc' := 104) rfl 4 rfl ?_
  refine f_lloadN A112 at_104 (pc' := 105) rfl rfl ?_
  refine f_lconst A112 at_105 (pc' := 106) rfl 1 rfl ?_
  refine f_callS A112 at_106 (pc' := 109) rfl (wd hw 4 rfl) (wd hw 5 rfl) (wd hw 6 rfl) (wd hw 7 rfl) (by decide) pd3 [(.long v), (.long (1 : Int64))] [(.int (4 : Int32)), (.ref a99)] rfl rfl rfl 2 (Nat.le_of_eq rfl) (CN.pay (W := 2) A112 (m_d l Z a0 hw v (1 : Int64) c0 h112 n0 A112.old (by decide) hc0 (chE e0)) (wd hw 7 rfl) (wd hw 6 rfl) (by decide) (by decide)) (kc := 0) (ks := 0) (by decide) (by decide) all0 (fun _ => sf0) fun v115 T115 h115 L115 A115 K115 q115 => ?_
  obtain ⟨rfl, hh115⟩ := q115
  obtain rfl := hh115.symm
  show Wp pG e below _ T115 (mkF m 109 _ [(.int c0), (.int (4 : Int32)), (.ref a99)])
  have c117 := (c113.keep K112)
  refine f_castore A115 at_109 (pc' := 110) rfl V112 ⟨by decide, by decide⟩ 4 (by decide) (Nat.le_of_ble_eq_true rfl) c0 (nar_id (chR e0)) (vs' := [(.int c3), (.int c2), (.int (46 : Int32)), (.int c1), (.int c0)]) rfl z99 (fun _ => (Safe.exa A115.hZ.alike c117 (by decide) (by decide))) fun T116 h116 A116 K116 V116 => ?_
  have Q118 : Keep h0 h116 [] := Q114.trans K116 (allS (Or.inr y99) all0)
  refine f_bipush A116 at_110 (pc' := 112) rfl 9 rfl ?_
  refine f_newP A116 9 at_112 (pc' := 114) rfl (wd hw 2 rfl) (by decide) (by decide) (by decide) (by decide) (by decide) (ad := "[C") (by decide) fun a119 T119 h119 k119 g119 A119 E119 F119 X119 => ?_
  have z119 : n0 ≤ a119 := Nat.le_trans A116.sz (Nat.le_of_eq g119.symm)
  have y119 : h0.size ≤ a119 := Nat.le_trans Q118.1 (Nat.le_of_eq g119.symm)
  have Q120 : Keep h0 h119 [] := Q118.ext E119
  have V119 : Arv Z h119 a119 k119 .char (9 : Int32) [(.int (0 : Int32)), (.int (0 : Int32)), (.int (0 : Int32)), (.int (0 : Int32)), (.int (0 : Int32)), (.int (0 : Int32)), (.int (0 : Int32)), (.int (0 : Int32)), (.int (0 : Int32))] (.int (0 : Int32)) := F119.pad (pad_rep [] (.int (0 : Int32)) 9)
  refine f_astore A119 at_114 (pc' := 116) rfl rfl (L' := #[.val (.long a), .second, .val (.int shape), .val (.long v), .second, .val (.int k), .val (.ref a83), .val (.ref a99), .val (.ref a119), .unset, .unset, .unset, .unset, .unset]) rfl ?_
  refine f_aload A119 at_116 (pc' := 118) rfl rfl rfl ?_
  refine f_iconst A119 at_118 (pc' := 119) rfl 0 rfl ?_
  refine f_lloadN A119 at_119 (pc' := 120) rfl rfl ?_
  refine f_ldc2J A119 at_120 (pc' := 123) rfl (wd hw 10 rfl) ?_
  refine f_callS A119 at_123 (pc' := 126) rfl (wd hw 4 rfl) (wd hw 5 rfl) (wd hw 6 rfl) (wd hw 7 rfl) (by decide) pd3 [(.long v), (.long (10000000 : Int64))] [(.int (0 : Int32)), (.ref a119)] rfl rfl rfl 2 (Nat.le_of_eq rfl) (CN.pay (W := 2) A119 (m_d l Z a0 hw v (10000000 : Int64) c7 h119 n0 A119.old (by decide) hc7 (chE e7)) (wd hw 7 rfl) (wd hw 6 rfl) (by decide) (by decide)) (kc := 0) (ks := 0) (by decide) (by decide) all0 (fun _ => sf0) fun v121 T121 h121 L121 A121 K121 q121 => ?_
  obtain ⟨rfl, hh121⟩ := q121
  obtain rfl := hh121.symm
  show Wp pG e below _ T121 (mkF m 126 _ [(.int c7), (.int (0 : Int32)), (.ref a119)])
  refine f_castore A121 at_126 (pc' := 127) rfl V119 ⟨by decide, by decide⟩ 0 (by decide) (Nat.le_of_ble_eq_true rfl) c7 (nar_id (chR e7)) (vs' := [(.int c7), (.int (0 : Int32)), (.int (0 : Int32)), (.int (0 : Int32)), (.int (0 : Int32)), (.int (0 : Int32)), (.int (0 : Int32)), (.int (0 : Int32)), (.int (0 : Int32))]) rfl z119 (fun _ => (Safe.exa A121.hZ.alike X119 (by decide) (by decide))) fun T122 h122 A122 K122 V122 => ?_
  have Q123 : Keep h0 h122 [] := Q120.trans K122 (allS (Or.inr y119) all0)
  refine f_aload A122 at_127 (pc' := 129) rfl rfl rfl ?_
  refine f_iconst A122 at_129 (pc' := 130) rfl 1 rfl ?_
  refine f_lloadN A122 at_130 (pc' := 131) rfl rfl ?_
  refine f_ldc2J A122 at_131 (pc' := 134) rfl (wd hw 11 rfl) ?_
  refine f_callS A122 at_134 (pc' := 137) rfl (wd hw 4 rfl) (wd hw 5 rfl) (wd hw 6 rfl) (wd hw 7 rfl) (by decide) pd3 [(.long v), (.long (1000000 : Int64))] [(.int (1 : Int32)), (.ref a119)] rfl rfl rfl 2 (Nat.le_of_eq rfl) (CN.pay (W := 2) A122 (m_d l Z a0 hw v (1000000 : Int64) c6 h122 n0 A122.old (by decide) hc6 (chE e6)) (wd hw 7 rfl) (wd hw 6 rfl) (by decide) (by decide)) (kc := 0) (ks := 0) (by decide) (by decide) all0 (fun _ => sf0) fun v124 T124 h124 L124 A124 K124 q124 => ?_
  obtain ⟨rfl, hh124⟩ := q124
  obtain rfl := hh124.symm
  show Wp pG e below _ T124 (mkF m 137 _ [(.int c6), (.int (1 : Int32)), (.ref a119)])
  have c126 := (X119.keep K122)
  refine f_castore A124 at_137 (pc' := 138) rfl V122 ⟨by decide, by decide⟩ 1 (by decide) (Nat.le_of_ble_eq_true rfl) c6 (nar_id (chR e6)) (vs' := [(.int c7), (.int c6), (.int (0 : Int32)), (.int (0 : Int32)), (.int (0 : Int32)), (.int (0 : Int32)), (.int (0 : Int32)), (.int (0 : Int32)), (.int (0 : Int32))]) rfl z119 (fun _ => (Safe.exa A124.hZ.alike c126 (by decide) (by decide))) fun T125 h125 A125 K125 V125 => ?_
  have Q127 : Keep h0 h125 [] := Q123.trans K125 (allS (Or.inr y119) all0)
  refine f_aload A125 at_138 (pc' := 140) rfl rfl rfl ?_
  refine f_iconst A125 at_140 (pc' := 141) rfl 2 rfl ?_
  refine f_lloadN A125 at_141 (pc' := 142) rfl rfl ?_
  refine f_ldc2J A125 at_142 (pc' := 145) rfl (wd hw 12 rfl) ?_
  refine f_callS A125 at_145 (pc' := 148) rfl (wd hw 4 rfl) (wd hw 5 rfl) (wd hw 6 rfl) (wd hw 7 rfl) (by decide) pd3 [(.long v), (.long (100000 : Int64))] [(.int (2 : Int32)), (.ref a119)] rfl rfl rfl 2 (Nat.le_of_eq rfl) (CN.pay (W := 2) A125 (m_d l Z a0 hw v (100000 : Int64) c5 h125 n0 A125.old (by decide) hc5 (chE e5)) (wd hw 7 rfl) (wd hw 6 rfl) (by decide) (by decide)) (kc := 0) (ks := 0) (by decide) (by decide) all0 (fun _ => sf0) fun v128 T128 h128 L128 A128 K128 q128 => ?_
  obtain ⟨rfl, hh128⟩ := q128
  obtain rfl := hh128.symm
  show Wp pG e below _ T128 (mkF m 148 _ [(.int c5), (.int (2 : Int32)), (.ref a119)])
  have c130 := (c126.keep K125)
  refine f_castore A128 at_148 (pc' := 149) rfl V125 ⟨by decide, by decide⟩ 2 (by decide) (Nat.le_of_ble_eq_true rfl) c5 (nar_id (chR e5)) (vs' := [(.int c7), (.int c6), (.int c5), (.int (0 : Int32)), (.int (0 : Int32)), (.int (0 : Int32)), (.int (0 : Int32)), (.int (0 : Int32)), (.int (0 : Int32))]) rfl z119 (fun _ => (Safe.exa A128.hZ.alike c130 (by decide) (by decide))) fun T129 h129 A129 K129 V129 => ?_
  have Q131 : Keep h0 h129 [] := Q127.trans K129 (allS (Or.inr y119) all0)
  refine f_aload A129 at_149 (pc' := 151) rfl rfl rfl ?_
  refine f_iconst A129 at_151 (pc' := 152) rfl 3 rfl ?_
  refine f_lloadN A129 at_152 (pc' := 153) rfl rfl ?_
  refine f_ldc2J A129 at_153 (pc' := 156) rfl (wd hw 13 rfl) ?_
  refine f_callS A129 at_156 (pc' := 159) rfl (wd hw 4 rfl) (wd hw 5 rfl) (wd hw 6 rfl) (wd hw 7 rfl) (by decide) pd3 [(.long v), (.long (10000 : Int64))] [(.int (3 : Int32)), (.ref a119)] rfl rfl rfl 2 (Nat.le_of_eq rfl) (CN.pay (W := 2) A129 (m_d l Z a0 hw v (10000 : Int64) c4 h129 n0 A129.old (by decide) hc4 (chE e4)) (wd hw 7 rfl) (wd hw 6 rfl) (by decide) (by decide)) (kc := 0) (ks := 0) (by decide) (by decide) all0 (fun _ => sf0) fun v132 T132 h132 L132 A132 K132 q132 => ?_
  obtain ⟨rfl, hh132⟩ := q132
  obtain rfl := hh132.symm
  show Wp pG e below _ T132 (mkF m 159 _ [(.int c4), (.int (3 : Int32)), (.ref a119)])
  have c134 := (c130.keep K129)
  refine f_castore A132 at_159 (pc' := 160) rfl V129 ⟨by decide, by decide⟩ 3 (by decide) (Nat.le_of_ble_eq_true rfl) c4 (nar_id (chR e4)) (vs' := [(.int c7), (.int c6), (.int c5), (.int c4), (.int (0 : Int32)), (.int (0 : Int32)), (.int (0 : Int32)), (.int (0 : Int32)), (.int (0 : Int32))]) rfl z119 (fun _ => (Safe.exa A132.hZ.alike c134 (by decide) (by decide))) fun T133 h133 A133 K133 V133 => ?_
  have Q135 : Keep h0 h133 [] := Q131.trans K133 (allS (Or.inr y119) all0)
  refine f_aload A133 at_160 (pc' := 162) rfl rfl rfl ?_
  refine f_iconst A133 at_162 (pc' := 163) rfl 4 rfl ?_
  refine f_lloadN A133 at_163 (pc' := 164) rfl rfl ?_
  refine f_ldc2J A133 at_164 (pc' := 167) rfl (wd hw 9 rfl) ?_
  refine f_callS A133 at_167 (pc' := 170) rfl (wd hw 4 rfl) (wd hw 5 rfl) (wd hw 6 rfl) (wd hw 7 rfl) (by decide) pd3 [(.long v), (.long (1000 : Int64))] [(.int (4 : Int32)), (.ref a119)] rfl rfl rfl 2 (Nat.le_of_eq rfl) (CN.pay (W := 2) A133 (m_d l Z a0 hw v (1000 : Int64) c3 h133 n0 A133.old (by decide) hc3 (chE e3)) (wd hw 7 rfl) (wd hw 6 rfl) (by decide) (by decide)) (kc := 0) (ks := 0) (by decide) (by decide) all0 (fun _ => sf0) fun v136 T136 h136 L136 A136 K136 q136 => ?_
  obtain ⟨rfl, hh136⟩ := q136
  obtain rfl := hh136.symm
  show Wp pG e below _ T136 (mkF m 170 _ [(.int c3), (.int (4 : Int32)), (.ref a119)])
  have c138 := (c134.keep K133)
  refine f_castore A136 at_170 (pc' := 171) rfl V133 ⟨by decide, by decide⟩ 4 (by decide) (Nat.le_of_ble_eq_true rfl) c3 (nar_id (chR e3)) (vs' := [(.int c7), (.int c6), (.int c5), (.int c4), (.int c3), (.int (0 : Int32)), (.int (0 : Int32)), (.int (0 : Int32)), (.int (0 : Int32))]) rfl z119 (fun _ => (Safe.exa A136.hZ.alike c138 (by decide) (by decide))) fun T137 h137 A137 K137 V137 => ?_
  have Q139 : Keep h0 h137 [] := Q135.trans K137 (allS (Or.inr y119) all0)
  refine f_aload A137 at_171 (pc' := 173) rfl rfl rfl ?_
  refine f_iconst A137 at_173 (pc' := 174) rfl 5 rfl ?_
  refine f_lloadN A137 at_174 (pc' := 175) rfl rfl ?_
  refine f_ldc2J A137 at_175 (pc' := 178) rfl (wd hw 3 rfl) ?_
  refine f_callS A137 at_178 (pc' := 181) rfl (wd hw 4 rfl) (wd hw 5 rfl) (wd hw 6 rfl) (wd hw 7 rfl) (by decide) pd3 [(.long v), (.long (100 : Int64))] [(.int (5 : Int32)), (.ref a119)] rfl rfl rfl 2 (Nat.le_of_eq rfl) (CN.pay (W := 2) A137 (m_d l Z a0 hw v (100 : Int64) c2 h137 n0 A137.old (by decide) hc2 (chE e2)) (wd hw 7 rfl) (wd hw 6 rfl) (by decide) (by decide)) (kc := 0) (ks := 0) (by decide) (by decide) all0 (fun _ => sf0) fun v140 T140 h140 L140 A140 K140 q140 => ?_
  obtain ⟨rfl, hh140⟩ := q140
  obtain rfl := hh140.symm
  show Wp pG e below _ T140 (mkF m 181 _ [(.int c2), (.int (5 : Int32)), (.ref a119)])
  have c142 := (c138.keep K137)
  refine f_castore A140 at_181 (pc' := 182) rfl V137 ⟨by decide, by decide⟩ 5 (by decide) (Nat.le_of_ble_eq_true rfl) c2 (nar_id (chR e2)) (vs' := [(.int c7), (.int c6), (.int c5), (.int c4), (.int c3), (.int c2), (.int (0 : Int32)), (.int (0 : Int32)), (.int (0 : Int32))]) rfl z119 (fun _ => (Safe.exa A140.hZ.alike c142 (by decide) (by decide))) fun T141 h141 A141 K141 V141 => ?_
  have Q143 : Keep h0 h141 [] := Q139.trans K141 (allS (Or.inr y119) all0)
  refine f_aload A141 at_182 (pc' := 184) rfl rfl rfl ?_
  refine f_bipush A141 at_184 (pc' := 186) rfl 6 rfl ?_
  refine f_bipush A141 at_186 (pc' := 188) rfl 46 rfl ?_
  have c145 := (c142.keep K141)
  refine f_castore A141 at_188 (pc' := 189) rfl V141 ⟨by decide, by decide⟩ 6 (by decide) (Nat.le_of_ble_eq_true rfl) (46 : Int32) (by decide) (vs' := [(.int c7), (.int c6), (.int c5), (.int c4), (.int c3), (.int c2), (.int (46 : Int32)), (.int (0 : Int32)), (.int (0 : Int32))]) rfl z119 (fun _ => (Safe.exa A141.hZ.alike c145 (by decide) (by decide))) fun T144 h144 A144 K144 V144 => ?_
  have Q146 : Keep h0 h144 [] := Q143.trans K144 (allS (Or.inr y119) all0)
  refine f_aload A144 at_189 (pc' := 191) rfl rfl rfl ?_
  refine f_bipush A144 at_191 (pc' := 193) rfl 7 rfl ?_
  refine f_lloadN A144 at_193 (pc' := 194) rfl rfl ?_
  refine f_ldc2J A144 at_194 (pc' := 197) rfl (wd hw 8 rfl) ?_
  refine f_callS A144 at_197 (pc' := 200) rfl (wd hw 4 rfl) (wd hw 5 rfl) (wd hw 6 rfl) (wd hw 7 rfl) (by decide) pd3 [(.long v), (.long (10 : Int64))] [(.int (7 : Int32)), (.ref a119)] rfl rfl rfl 2 (Nat.le_of_eq rfl) (CN.pay (W := 2) A144 (m_d l Z a0 hw v (10 : Int64) c1 h144 n0 A144.old (by decide) hc1 (chE e1)) (wd hw 7 rfl) (wd hw 6 rfl) (by decide) (by decide)) (kc := 0) (ks := 0) (by decide) (by decide) all0 (fun _ => sf0) fun v147 T147 h147 L147 A147 K147 q147 => ?_
  obtain ⟨rfl, hh147⟩ := q147
  obtain rfl := hh147.symm
  show Wp pG e below _ T147 (mkF m 200 _ [(.int c1), (.int (7 : Int32)), (.ref a119)])
  have c149 := (c145.keep K144)
  refine f_castore A147 at_200 (pc' := 201) rfl V144 ⟨by decide, by decide⟩ 7 (by decide) (Nat.le_of_ble_eq_true rfl) c1 (nar_id (chR e1)) (vs' := [(.int c7), (.int c6), (.int c5), (.int c4), (.int c3), (.int c2), (.int (46 : Int32)), (.int c1), (.int (0 : Int32))]) rfl z119 (fun _ => (Safe.exa A147.hZ.alike c149 (by decide) (by decide))) fun T148 h148 A148 K148 V148 => ?_
  have Q150 : Keep h0 h148 [] := Q146.trans K148 (allS (Or.inr y119) all0)
  refine f_aload A148 at_201 (pc' := 203) rfl rfl rfl ?_
  refine f_bipush A148 at_203 (pc' := 205) rfl 8 rfl ?_
  refine f_lloadN A148 at_205 (pc' := 206) rfl rfl ?_
  refine f_lconst A148 at_206 (pc' := 207) rfl 1 rfl ?_
  refine f_callS A148 at_207 (pc' := 210) rfl (wd hw 4 rfl) (wd hw 5 rfl) (wd hw 6 rfl) (wd hw 7 rfl) (by decide) pd3 [(.long v), (.long (1 : Int64))] [(.int (8 : Int32)), (.ref a119)] rfl rfl rfl 2 (Nat.le_of_eq rfl) (CN.pay (W := 2) A148 (m_d l Z a0 hw v (1 : Int64) c0 h148 n0 A148.old (by decide) hc0 (chE e0)) (wd hw 7 rfl) (wd hw 6 rfl) (by decide) (by decide)) (kc := 0) (ks := 0) (by decide) (by decide) all0 (fun _ => sf0) fun v151 T151 h151 L151 A151 K151 q151 => ?_
  obtain ⟨rfl, hh151⟩ := q151
  obtain rfl := hh151.symm
  show Wp pG e below _ T151 (mkF m 210 _ [(.int c0), (.int (8 : Int32)), (.ref a119)])
  have c153 := (c149.keep K148)
  refine f_castore A151 at_210 (pc' := 211) rfl V148 ⟨by decide, by decide⟩ 8 (by decide) (Nat.le_of_ble_eq_true rfl) c0 (nar_id (chR e0)) (vs' := [(.int c7), (.int c6), (.int c5), (.int c4), (.int c3), (.int c2), (.int (46 : Int32)), (.int c1), (.int c0)]) rfl z119 (fun _ => (Safe.exa A151.hZ.alike c153 (by decide) (by decide))) fun T152 h152 A152 K152 V152 => ?_
  have Q154 : Keep h0 h152 [] := Q150.trans K152 (allS (Or.inr y119) all0)
  refine f_bipush A152 at_211 (pc' := 213) rfl 15 rfl ?_
  refine f_newP A152 15 at_213 (pc' := 215) rfl (wd hw 2 rfl) (by decide) (by decide) (by decide) (by decide) (by decide) (ad := "[C") (by decide) fun a155 T155 h155 k155 g155 A155 E155 F155 X155 => ?_
  have z155 : n0 ≤ a155 := Nat.le_trans A152.sz (Nat.le_of_eq g155.symm)
  have y155 : h0.size ≤ a155 := Nat.le_trans Q154.1 (Nat.le_of_eq g155.symm)
  have Q156 : Keep h0 h155 [] := Q154.ext E155
  have V155 : Arv Z h155 a155 k155 .char (15 : Int32) [(.int (0 : Int32)), (.int (0 : Int32)), (.int (0 : Int32)), (.int (0 : Int32)), (.int (0 : Int32)), (.int (0 : Int32)), (.int (0 : Int32)), (.int (0 : Int32)), (.int (0 : Int32)), (.int (0 : Int32)), (.int (0 : Int32)), (.int (0 : Int32)), (.int (0 : Int32)), (.int (0 : Int32)), (.int (0 : Int32))] (.int (0 : Int32)) := F155.pad (pad_rep [] (.int (0 : Int32)) 15)
  refine f_astore A155 at_215 (pc' := 217) rfl rfl (L' := #[.val (.long a), .second, .val (.int shape), .val (.long v), .second, .val (.int k), .val (.ref a83), .val (.ref a99), .val (.ref a119), .val (.ref a155), .unset, .unset, .unset, .unset]) rfl ?_
  refine f_aload A155 at_217 (pc' := 219) rfl rfl rfl ?_
  refine f_iconst A155 at_219 (pc' := 220) rfl 0 rfl ?_
  refine f_lloadN A155 at_220 (pc' := 221) rfl rfl ?_
  refine f_ldc2J A155 at_221 (pc' := 224) rfl (wd hw 14 rfl) ?_
  refine f_callS A155 at_224 (pc' := 227) rfl (wd hw 4 rfl) (wd hw 5 rfl) (wd hw 6 rfl) (wd hw 7 rfl) (by decide) pd3 [(.long v), (.long (10000000000000 : Int64))] [(.int (0 : Int32)), (.ref a155)] rfl rfl rfl 2 (Nat.le_of_eq rfl) (CN.pay (W := 2) A155 (m_d l Z a0 hw v (10000000000000 : Int64) c13 h155 n0 A155.old (by decide) hc13 (chE e13)) (wd hw 7 rfl) (wd hw 6 rfl) (by decide) (by decide)) (kc := 0) (ks := 0) (by decide) (by decide) all0 (fun _ => sf0) fun v157 T157 h157 L157 A157 K157 q157 => ?_
  obtain ⟨rfl, hh157⟩ := q157
  obtain rfl := hh157.symm
  show Wp pG e below _ T157 (mkF m 227 _ [(.int c13), (.int (0 : Int32)), (.ref a155)])
  refine f_castore A157 at_227 (pc' := 228) rfl V155 ⟨by decide, by decide⟩ 0 (by decide) (Nat.le_of_ble_eq_true rfl) c13 (nar_id (chR e13)) (vs' := [(.int c13), (.int (0 : Int32)), (.int (0 : Int32)), (.int (0 : Int32)), (.int (0 : Int32)), (.int (0 : Int32)), (.int (0 : Int32)), (.int (0 : Int32)), (.int (0 : Int32)), (.int (0 : Int32)), (.int (0 : Int32)), (.int (0 : Int32)), (.int (0 : Int32)), (.int (0 : Int32)), (.int (0 : Int32))]) rfl z155 (fun _ => (Safe.exa A157.hZ.alike X155 (by decide) (by decide))) fun T158 h158 A158 K158 V158 => ?_
  have Q159 : Keep h0 h158 [] := Q156.trans K158 (allS (Or.inr y155) all0)
  refine f_aload A158 at_228 (pc' := 230) rfl rfl rfl ?_
  refine f_iconst A158 at_230 (pc' := 231) rfl 1 rfl ?_
  refine f_lloadN A158 at_231 (pc' := 232) rfl rfl ?_
  refine f_ldc2J A158 at_232 (pc' := 235) rfl (wd hw 15 rfl) ?_
  refine f_callS A158 at_235 (pc' := 238) rfl (wd hw 4 rfl) (wd hw 5 rfl) (wd hw 6 rfl) (wd hw 7 rfl) (by decide) pd3 [(.long v), (.long (1000000000000 : Int64))] [(.int (1 : Int32)), (.ref a155)] rfl rfl rfl 2 (Nat.le_of_eq rfl) (CN.pay (W := 2) A158 (m_d l Z a0 hw v (1000000000000 : Int64) c12 h158 n0 A158.old (by decide) hc12 (chE e12)) (wd hw 7 rfl) (wd hw 6 rfl) (by decide) (by decide)) (kc := 0) (ks := 0) (by decide) (by decide) all0 (fun _ => sf0) fun v160 T160 h160 L160 A160 K160 q160 => ?_
  obtain ⟨rfl, hh160⟩ := q160
  obtain rfl := hh160.symm
  show Wp pG e below _ T160 (mkF m 238 _ [(.int c12), (.int (1 : Int32)), (.ref a155)])
  have c162 := (X155.keep K158)
  refine f_castore A160 at_238 (pc' := 239) rfl V158 ⟨by decide, by decide⟩ 1 (by decide) (Nat.le_of_ble_eq_true rfl) c12 (nar_id (chR e12)) (vs' := [(.int c13), (.int c12), (.int (0 : Int32)), (.int (0 : Int32)), (.int (0 : Int32)), (.int (0 : Int32)), (.int (0 : Int32)), (.int (0 : Int32)), (.int (0 : Int32)), (.int (0 : Int32)), (.int (0 : Int32)), (.int (0 : Int32)), (.int (0 : Int32)), (.int (0 : Int32)), (.int (0 : Int32))]) rfl z155 (fun _ => (Safe.exa A160.hZ.alike c162 (by decide) (by decide))) fun T161 h161 A161 K161 V161 => ?_
  have Q163 : Keep h0 h161 [] := Q159.trans K161 (allS (Or.inr y155) all0)
  refine f_aload A161 at_239 (pc' := 241) rfl rfl rfl ?_
  refine f_iconst A161 at_241 (pc' := 242) rfl 2 rfl ?_
  refine f_lloadN A161 at_242 (pc' := 243) rfl rfl ?_
  refine f_ldc2J A161 at_243 (pc' := 246) rfl (wd hw 16 rfl) ?_
  refine f_callS A161 at_246 (pc' := 249) rfl (wd hw 4 rfl) (wd hw 5 rfl) (wd hw 6 rfl) (wd hw 7 rfl) (by decide) pd3 [(.long v), (.long (100000000000 : Int64))] [(.int (2 : Int32)), (.ref a155)] rfl rfl rfl 2 (Nat.le_of_eq rfl) (CN.pay (W := 2) A161 (m_d l Z a0 hw v (100000000000 : Int64) c11 h161 n0 A161.old (by decide) hc11 (chE e11)) (wd hw 7 rfl) (wd hw 6 rfl) (by decide) (by decide)) (kc := 0) (ks := 0) (by decide) (by decide) all0 (fun _ => sf0) fun v164 T164 h164 L164 A164 K164 q164 => ?_
  obtain ⟨rfl, hh164⟩ := q164
  obtain rfl := hh164.symm
  show Wp pG e below _ T164 (mkF m 249 _ [(.int c11), (.int (2 : Int32)), (.ref a155)])
  have c166 := (c162.keep K161)
  refine f_castore A164 at_249 (pc' := 250) rfl V161 ⟨by decide, by decide⟩ 2 (by decide) (Nat.le_of_ble_eq_true rfl) c11 (nar_id (chR e11)) (vs' := [(.int c13), (.int c12), (.int c11), (.int (0 : Int32)), (.int (0 : Int32)), (.int (0 : Int32)), (.int (0 : Int32)), (.int (0 : Int32)), (.int (0 : Int32)), (.int (0 : Int32)), (.int (0 : Int32)), (.int (0 : Int32)), (.int (0 : Int32)), (.int (0 : Int32)), (.int (0 : Int32))]) rfl z155 (fun _ => (Safe.exa A164.hZ.alike c166 (by decide) (by decide))) fun T165 h165 A165 K165 V165 => ?_
  have Q167 : Keep h0 h165 [] := Q163.trans K165 (allS (Or.inr y155) all0)
  refine f_aload A165 at_250 (pc' := 252) rfl rfl rfl ?_
  refine f_iconst A165 at_252 (pc' := 253) rfl 3 rfl ?_
  refine f_lloadN A165 at_253 (pc' := 254) rfl rfl ?_
  refine f_ldc2J A165 at_254 (pc' := 257) rfl (wd hw 17 rfl) ?_
  refine f_callS A165 at_257 (pc' := 260) rfl (wd hw 4 rfl) (wd hw 5 rfl) (wd hw 6 rfl) (wd hw 7 rfl) (by decide) pd3 [(.long v), (.long (10000000000 : Int64))] [(.int (3 : Int32)), (.ref a155)] rfl rfl rfl 2 (Nat.le_of_eq rfl) (CN.pay (W := 2) A165 (m_d l Z a0 hw v (10000000000 : Int64) c10 h165 n0 A165.old (by decide) hc10 (chE e10)) (wd hw 7 rfl) (wd hw 6 rfl) (by decide) (by decide)) (kc := 0) (ks := 0) (by decide) (by decide) all0 (fun _ => sf0) fun v168 T168 h168 L168 A168 K168 q168 => ?_
  obtain ⟨rfl, hh168⟩ := q168
  obtain rfl := hh168.symm
  show Wp pG e below _ T168 (mkF m 260 _ [(.int c10), (.int (3 : Int32)), (.ref a155)])
  have c170 := (c166.keep K165)
  refine f_castore A168 at_260 (pc' := 261) rfl V165 ⟨by decide, by decide⟩ 3 (by decide) (Nat.le_of_ble_eq_true rfl) c10 (nar_id (chR e10)) (vs' := [(.int c13), (.int c12), (.int c11), (.int c10), (.int (0 : Int32)), (.int (0 : Int32)), (.int (0 : Int32)), (.int (0 : Int32)), (.int (0 : Int32)), (.int (0 : Int32)), (.int (0 : Int32)), (.int (0 : Int32)), (.int (0 : Int32)), (.int (0 : Int32)), (.int (0 : Int32))]) rfl z155 (fun _ => (Safe.exa A168.hZ.alike c170 (by decide) (by decide))) fun T169 h169 A169 K169 V169 => ?_
  have Q171 : Keep h0 h169 [] := Q167.trans K169 (allS (Or.inr y155) all0)
  refine f_aload A169 at_261 (pc' := 263) rfl rfl rfl ?_
  refine f_iconst A169 at_263 (pc' := 264) rfl 4 rfl ?_
  refine f_lloadN A169 at_264 (pc' := 265) rfl rfl ?_
  refine f_ldc2J A169 at_265 (pc' := 268) rfl (wd hw 18 rfl) ?_
  refine f_callS A169 at_268 (pc' := 271) rfl (wd hw 4 rfl) (wd hw 5 rfl) (wd hw 6 rfl) (wd hw 7 rfl) (by decide) pd3 [(.long v), (.long (1000000000 : Int64))] [(.int (4 : Int32)), (.ref a155)] rfl rfl rfl 2 (Nat.le_of_eq rfl) (CN.pay (W := 2) A169 (m_d l Z a0 hw v (1000000000 : Int64) c9 h169 n0 A169.old (by decide) hc9 (chE e9)) (wd hw 7 rfl) (wd hw 6 rfl) (by decide) (by decide)) (kc := 0) (ks := 0) (by decide) (by decide) all0 (fun _ => sf0) fun v172 T172 h172 L172 A172 K172 q172 => ?_
  obtain ⟨rfl, hh172⟩ := q172
  obtain rfl := hh172.symm
  show Wp pG e below _ T172 (mkF m 271 _ [(.int c9), (.int (4 : Int32)), (.ref a155)])
  have c174 := (c170.keep K169)
  refine f_castore A172 at_271 (pc' := 272) rfl V169 ⟨by decide, by decide⟩ 4 (by decide) (Nat.le_of_ble_eq_true rfl) c9 (nar_id (chR e9)) (vs' := [(.int c13), (.int c12), (.int c11), (.int c10), (.int c9), (.int (0 : Int32)), (.int (0 : Int32)), (.int (0 : Int32)), (.int (0 : Int32)), (.int (0 : Int32)), (.int (0 : Int32)), (.int (0 : Int32)), (.int (0 : Int32)), (.int (0 : Int32)), (.int (0 : Int32))]) rfl z155 (fun _ => (Safe.exa A172.hZ.alike c174 (by decide) (by decide))) fun T173 h173 A173 K173 V173 => ?_
  have Q175 : Keep h0 h173 [] := Q171.trans K173 (allS (Or.inr y155) all0)
  refine f_aload A173 at_272 (pc' := 274) rfl rfl rfl ?_
  refine f_iconst A173 at_274 (pc' := 275) rfl 5 rfl ?_
  refine f_lloadN A173 at_275 (pc' := 276) rfl rfl ?_
  refine f_ldc2J A173 at_276 (pc' := 279) rfl (wd hw 19 rfl) ?_
  refine f_callS A173 at_279 (pc' := 282) rfl (wd hw 4 rfl) (wd hw 5 rfl) (wd hw 6 rfl) (wd hw 7 rfl) (by decide) pd3 [(.long v), (.long (100000000 : Int64))] [(.int (5 : Int32)), (.ref a155)] rfl rfl rfl 2 (Nat.le_of_eq rfl) (CN.pay (W := 2) A173 (m_d l Z a0 hw v (100000000 : Int64) c8 h173 n0 A173.old (by decide) hc8 (chE e8)) (wd hw 7 rfl) (wd hw 6 rfl) (by decide) (by decide)) (kc := 0) (ks := 0) (by decide) (by decide) all0 (fun _ => sf0) fun v176 T176 h176 L176 A176 K176 q176 => ?_
  obtain ⟨rfl, hh176⟩ := q176
  obtain rfl := hh176.symm
  show Wp pG e below _ T176 (mkF m 282 _ [(.int c8), (.int (5 : Int32)), (.ref a155)])
  have c178 := (c174.keep K173)
  refine f_castore A176 at_282 (pc' := 283) rfl V173 ⟨by decide, by decide⟩ 5 (by decide) (Nat.le_of_ble_eq_true rfl) c8 (nar_id (chR e8)) (vs' := [(.int c13), (.int c12), (.int c11), (.int c10), (.int c9), (.int c8), (.int (0 : Int32)), (.int (0 : Int32)), (.int (0 : Int32)), (.int (0 : Int32)), (.int (0 : Int32)), (.int (0 : Int32)), (.int (0 : Int32)), (.int (0 : Int32)), (.int (0 : Int32))]) rfl z155 (fun _ => (Safe.exa A176.hZ.alike c178 (by decide) (by decide))) fun T177 h177 A177 K177 V177 => ?_
  have Q179 : Keep h0 h177 [] := Q175.trans K177 (allS (Or.inr y155) all0)
  refine f_aload A177 at_283 (pc' := 285) rfl rfl rfl ?_
  refine f_bipush A177 at_285 (pc' := 287) rfl 6 rfl ?_
  refine f_lloadN A177 at_287 (pc' := 288) rfl rfl ?_
  refine f_ldc2J A177 at_288 (pc' := 291) rfl (wd hw 10 rfl) ?_
  refine f_callS A177 at_291 (pc' := 294) rfl (wd hw 4 rfl) (wd hw 5 rfl) (wd hw 6 rfl) (wd hw 7 rfl) (by decide) pd3 [(.long v), (.long (10000000 : Int64))] [(.int (6 : Int32)), (.ref a155)] rfl rfl rfl 2 (Nat.le_of_eq rfl) (CN.pay (W := 2) A177 (m_d l Z a0 hw v (10000000 : Int64) c7 h177 n0 A177.old (by decide) hc7 (chE e7)) (wd hw 7 rfl) (wd hw 6 rfl) (by decide) (by decide)) (kc := 0) (ks := 0) (by decide) (by decide) all0 (fun _ => sf0) fun v180 T180 h180 L180 A180 K180 q180 => ?_
  obtain ⟨rfl, hh180⟩ := q180
  obtain rfl := hh180.symm
  show Wp pG e below _ T180 (mkF m 294 _ [(.int c7), (.int (6 : Int32)), (.ref a155)])
  have c182 := (c178.keep K177)
  refine f_castore A180 at_294 (pc' := 295) rfl V177 ⟨by decide, by decide⟩ 6 (by decide) (Nat.le_of_ble_eq_true rfl) c7 (nar_id (chR e7)) (vs' := [(.int c13), (.int c12), (.int c11), (.int c10), (.int c9), (.int c8), (.int c7), (.int (0 : Int32)), (.int (0 : Int32)), (.int (0 : Int32)), (.int (0 : Int32)), (.int (0 : Int32)), (.int (0 : Int32)), (.int (0 : Int32)), (.int (0 : Int32))]) rfl z155 (fun _ => (Safe.exa A180.hZ.alike c182 (by decide) (by decide))) fun T181 h181 A181 K181 V181 => ?_
  have Q183 : Keep h0 h181 [] := Q179.trans K181 (allS (Or.inr y155) all0)
  refine f_aload A181 at_295 (pc' := 297) rfl rfl rfl ?_
  refine f_bipush A181 at_297 (pc' := 299) rfl 7 rfl ?_
  refine f_lloadN A181 at_299 (pc' := 300) rfl rfl ?_
  refine f_ldc2J A181 at_300 (pc' := 303) rfl (wd hw 11 rfl) ?_
  refine f_callS A181 at_303 (pc' := 306) rfl (wd hw 4 rfl) (wd hw 5 rfl) (wd hw 6 rfl) (wd hw 7 rfl) (by decide) pd3 [(.long v), (.long (1000000 : Int64))] [(.int (7 : Int32)), (.ref a155)] rfl rfl rfl 2 (Nat.le_of_eq rfl) (CN.pay (W := 2) A181 (m_d l Z a0 hw v (1000000 : Int64) c6 h181 n0 A181.old (by decide) hc6 (chE e6)) (wd hw 7 rfl) (wd hw 6 rfl) (by decide) (by decide)) (kc := 0) (ks := 0) (by decide) (by decide) all0 (fun _ => sf0) fun v184 T184 h184 L184 A184 K184 q184 => ?_
  obtain ⟨rfl, hh184⟩ := q184
  obtain rfl := hh184.symm
  show Wp pG e below _ T184 (mkF m 306 _ [(.int c6), (.int (7 : Int32)), (.ref a155)])
  have c186 := (c182.keep K181)
  refine f_castore A184 at_306 (pc' := 307) rfl V181 ⟨by decide, by decide⟩ 7 (by decide) (Nat.le_of_ble_eq_true rfl) c6 (nar_id (chR e6)) (vs' := [(.int c13), (.int c12), (.int c11), (.int c10), (.int c9), (.int c8), (.int c7), (.int c6), (.int (0 : Int32)), (.int (0 : Int32)), (.int (0 : Int32)), (.int (0 : Int32)), (.int (0 : Int32)), (.int (0 : Int32)), (.int (0 : Int32))]) rfl z155 (fun _ => (Safe.exa A184.hZ.alike c186 (by decide) (by decide))) fun T185 h185 A185 K185 V185 => ?_
  have Q187 : Keep h0 h185 [] := Q183.trans K185 (allS (Or.inr y155) all0)
  refine f_aload A185 at_307 (pc' := 309) rfl rfl rfl ?_
  refine f_bipush A185 at_309 (pc' := 311) rfl 8 rfl ?_
  refine f_lloadN A185 at_311 (pc' := 312) rfl rfl ?_
  refine f_ldc2J A185 at_312 (pc' := 315) rfl (wd hw 12 rfl) ?_
  refine f_callS A185 at_315 (pc' := 318) rfl (wd hw 4 rfl) (wd hw 5 rfl) (wd hw 6 rfl) (wd hw 7 rfl) (by decide) pd3 [(.long v), (.long (100000 : Int64))] [(.int (8 : Int32)), (.ref a155)] rfl rfl rfl 2 (Nat.le_of_eq rfl) (CN.pay (W := 2) A185 (m_d l Z a0 hw v (100000 : Int64) c5 h185 n0 A185.old (by decide) hc5 (chE e5)) (wd hw 7 rfl) (wd hw 6 rfl) (by decide) (by decide)) (kc := 0) (ks := 0) (by decide) (by decide) all0 (fun _ => sf0) fun v188 T188 h188 L188 A188 K188 q188 => ?_
  obtain ⟨rfl, hh188⟩ := q188
  obtain rfl := hh188.symm
  show Wp pG e below _ T188 (mkF m 318 _ [(.int c5), (.int (8 : Int32)), (.ref a155)])
  have c190 := (c186.keep K185)
  refine f_castore A188 at_318 (pc' := 319) rfl V185 ⟨by decide, by decide⟩ 8 (by decide) (Nat.le_of_ble_eq_true rfl) c5 (nar_id (chR e5)) (vs' := [(.int c13), (.int c12), (.int c11), (.int c10), (.int c9), (.int c8), (.int c7), (.int c6), (.int c5), (.int (0 : Int32)), (.int (0 : Int32)), (.int (0 : Int32)), (.int (0 : Int32)), (.int (0 : Int32)), (.int (0 : Int32))]) rfl z155 (fun _ => (Safe.exa A188.hZ.alike c190 (by decide) (by decide))) fun T189 h189 A189 K189 V189 => ?_
  have Q191 : Keep h0 h189 [] := Q187.trans K189 (allS (Or.inr y155) all0)
  refine f_aload A189 at_319 (pc' := 321) rfl rfl rfl ?_
  refine f_bipush A189 at_321 (pc' := 323) rfl 9 rfl ?_
  refine f_lloadN A189 at_323 (pc' := 324) rfl rfl ?_
  refine f_ldc2J A189 at_324 (pc' := 327) rfl (wd hw 13 rfl) ?_
  refine f_callS A189 at_327 (pc' := 330) rfl (wd hw 4 rfl) (wd hw 5 rfl) (wd hw 6 rfl) (wd hw 7 rfl) (by decide) pd3 [(.long v), (.long (10000 : Int64))] [(.int (9 : Int32)), (.ref a155)] rfl rfl rfl 2 (Nat.le_of_eq rfl) (CN.pay (W := 2) A189 (m_d l Z a0 hw v (10000 : Int64) c4 h189 n0 A189.old (by decide) hc4 (chE e4)) (wd hw 7 rfl) (wd hw 6 rfl) (by decide) (by decide)) (kc := 0) (ks := 0) (by decide) (by decide) all0 (fun _ => sf0) fun v192 T192 h192 L192 A192 K192 q192 => ?_
  obtain ⟨rfl, hh192⟩ := q192
  obtain rfl := hh192.symm
  show Wp pG e below _ T192 (mkF m 330 _ [(.int c4), (.int (9 : Int32)), (.ref a155)])
  have c194 := (c190.keep K189)
  refine f_castore A192 at_330 (pc' := 331) rfl V189 ⟨by decide, by decide⟩ 9 (by decide) (Nat.le_of_ble_eq_true rfl) c4 (nar_id (chR e4)) (vs' := [(.int c13), (.int c12), (.int c11), (.int c10), (.int c9), (.int c8), (.int c7), (.int c6), (.int c5), (.int c4), (.int (0 : Int32)), (.int (0 : Int32)), (.int (0 : Int32)), (.int (0 : Int32)), (.int (0 : Int32))]) rfl z155 (fun _ => (Safe.exa A192.hZ.alike c194 (by decide) (by decide))) fun T193 h193 A193 K193 V193 => ?_
  have Q195 : Keep h0 h193 [] := Q191.trans K193 (allS (Or.inr y155) all0)
  refine f_aload A193 at_331 (pc' := 333) rfl rfl rfl ?_
  refine f_bipush A193 at_333 (pc' := 335) rfl 10 rfl ?_
  refine f_lloadN A193 at_335 (pc' := 336) rfl rfl ?_
  refine f_ldc2J A193 at_336 (pc' := 339) rfl (wd hw 9 rfl) ?_
  refine f_callS A193 at_339 (pc' := 342) rfl (wd hw 4 rfl) (wd hw 5 rfl) (wd hw 6 rfl) (wd hw 7 rfl) (by decide) pd3 [(.long v), (.long (1000 : Int64))] [(.int (10 : Int32)), (.ref a155)] rfl rfl rfl 2 (Nat.le_of_eq rfl) (CN.pay (W := 2) A193 (m_d l Z a0 hw v (1000 : Int64) c3 h193 n0 A193.old (by decide) hc3 (chE e3)) (wd hw 7 rfl) (wd hw 6 rfl) (by decide) (by decide)) (kc := 0) (ks := 0) (by decide) (by decide) all0 (fun _ => sf0) fun v196 T196 h196 L196 A196 K196 q196 => ?_
  obtain ⟨rfl, hh196⟩ := q196
  obtain rfl := hh196.symm
  show Wp pG e below _ T196 (mkF m 342 _ [(.int c3), (.int (10 : Int32)), (.ref a155)])
  have c198 := (c194.keep K193)
  refine f_castore A196 at_342 (pc' := 343) rfl V193 ⟨by decide, by decide⟩ 10 (by decide) (Nat.le_of_ble_eq_true rfl) c3 (nar_id (chR e3)) (vs' := [(.int c13), (.int c12), (.int c11), (.int c10), (.int c9), (.int c8), (.int c7), (.int c6), (.int c5), (.int c4), (.int c3), (.int (0 : Int32)), (.int (0 : Int32)), (.int (0 : Int32)), (.int (0 : Int32))]) rfl z155 (fun _ => (Safe.exa A196.hZ.alike c198 (by decide) (by decide))) fun T197 h197 A197 K197 V197 => ?_
  have Q199 : Keep h0 h197 [] := Q195.trans K197 (allS (Or.inr y155) all0)
  refine f_aload A197 at_343 (pc' := 345) rfl rfl rfl ?_
  refine f_bipush A197 at_345 (pc' := 347) rfl 11 rfl ?_
  refine f_lloadN A197 at_347 (pc' := 348) rfl rfl ?_
  refine f_ldc2J A197 at_348 (pc' := 351) rfl (wd hw 3 rfl) ?_
  refine f_callS A197 at_351 (pc' := 354) rfl (wd hw 4 rfl) (wd hw 5 rfl) (wd hw 6 rfl) (wd hw 7 rfl) (by decide) pd3 [(.long v), (.long (100 : Int64))] [(.int (11 : Int32)), (.ref a155)] rfl rfl rfl 2 (Nat.le_of_eq rfl) (CN.pay (W := 2) A197 (m_d l Z a0 hw v (100 : Int64) c2 h197 n0 A197.old (by decide) hc2 (chE e2)) (wd hw 7 rfl) (wd hw 6 rfl) (by decide) (by decide)) (kc := 0) (ks := 0) (by decide) (by decide) all0 (fun _ => sf0) fun v200 T200 h200 L200 A200 K200 q200 => ?_
  obtain ⟨rfl, hh200⟩ := q200
  obtain rfl := hh200.symm
  show Wp pG e below _ T200 (mkF m 354 _ [(.int c2), (.int (11 : Int32)), (.ref a155)])
  have c202 := (c198.keep K197)
  refine f_castore A200 at_354 (pc' := 355) rfl V197 ⟨by decide, by decide⟩ 11 (by decide) (Nat.le_of_ble_eq_true rfl) c2 (nar_id (chR e2)) (vs' := [(.int c13), (.int c12), (.int c11), (.int c10), (.int c9), (.int c8), (.int c7), (.int c6), (.int c5), (.int c4), (.int c3), (.int c2), (.int (0 : Int32)), (.int (0 : Int32)), (.int (0 : Int32))]) rfl z155 (fun _ => (Safe.exa A200.hZ.alike c202 (by decide) (by decide))) fun T201 h201 A201 K201 V201 => ?_
  have Q203 : Keep h0 h201 [] := Q199.trans K201 (allS (Or.inr y155) all0)
  refine f_aload A201 at_355 (pc' := 357) rfl rfl rfl ?_
  refine f_bipush A201 at_357 (pc' := 359) rfl 12 rfl ?_
  refine f_bipush A201 at_359 (pc' := 361) rfl 46 rfl ?_
  have c205 := (c202.keep K201)
  refine f_castore A201 at_361 (pc' := 362) rfl V201 ⟨by decide, by decide⟩ 12 (by decide) (Nat.le_of_ble_eq_true rfl) (46 : Int32) (by decide) (vs' := [(.int c13), (.int c12), (.int c11), (.int c10), (.int c9), (.int c8), (.int c7), (.int c6), (.int c5), (.int c4), (.int c3), (.int c2), (.int (46 : Int32)), (.int (0 : Int32)), (.int (0 : Int32))]) rfl z155 (fun _ => (Safe.exa A201.hZ.alike c205 (by decide) (by decide))) fun T204 h204 A204 K204 V204 => ?_
  have Q206 : Keep h0 h204 [] := Q203.trans K204 (allS (Or.inr y155) all0)
  refine f_aload A204 at_362 (pc' := 364) rfl rfl rfl ?_
  refine f_bipush A204 at_364 (pc' := 366) rfl 13 rfl ?_
  refine f_lloadN A204 at_366 (pc' := 367) rfl rfl ?_
  refine f_ldc2J A204 at_367 (pc' := 370) rfl (wd hw 8 rfl) ?_
  refine f_callS A204 at_370 (pc' := 373) rfl (wd hw 4 rfl) (wd hw 5 rfl) (wd hw 6 rfl) (wd hw 7 rfl) (by decide) pd3 [(.long v), (.long (10 : Int64))] [(.int (13 : Int32)), (.ref a155)] rfl rfl rfl 2 (Nat.le_of_eq rfl) (CN.pay (W := 2) A204 (m_d l Z a0 hw v (10 : Int64) c1 h204 n0 A204.old (by decide) hc1 (chE e1)) (wd hw 7 rfl) (wd hw 6 rfl) (by decide) (by decide)) (kc := 0) (ks := 0) (by decide) (by decide) all0 (fun _ => sf0) fun v207 T207 h207 L207 A207 K207 q207 => ?_
  obtain ⟨rfl, hh207⟩ := q207
  obtain rfl := hh207.symm
  show Wp pG e below _ T207 (mkF m 373 _ [(.int c1), (.int (13 : Int32)), (.ref a155)])
  have c209 := (c205.keep K204)
  refine f_castore A207 at_373 (pc' := 374) rfl V204 ⟨by decide, by decide⟩ 13 (by decide) (Nat.le_of_ble_eq_true rfl) c1 (nar_id (chR e1)) (vs' := [(.int c13), (.int c12), (.int c11), (.int c10), (.int c9), (.int c8), (.int c7), (.int c6), (.int c5), (.int c4), (.int c3), (.int c2), (.int (46 : Int32)), (.int c1), (.int (0 : Int32))]) rfl z155 (fun _ => (Safe.exa A207.hZ.alike c209 (by decide) (by decide))) fun T208 h208 A208 K208 V208 => ?_
  have Q210 : Keep h0 h208 [] := Q206.trans K208 (allS (Or.inr y155) all0)
  refine f_aload A208 at_374 (pc' := 376) rfl rfl rfl ?_
  refine f_bipush A208 at_376 (pc' := 378) rfl 14 rfl ?_
  refine f_lloadN A208 at_378 (pc' := 379) rfl rfl ?_
  refine f_lconst A208 at_379 (pc' := 380) rfl 1 rfl ?_
  refine f_callS A208 at_380 (pc' := 383) rfl (wd hw 4 rfl) (wd hw 5 rfl) (wd hw 6 rfl) (wd hw 7 rfl) (by decide) pd3 [(.long v), (.long (1 : Int64))] [(.int (14 : Int32)), (.ref a155)] rfl rfl rfl 2 (Nat.le_of_eq rfl) (CN.pay (W := 2) A208 (m_d l Z a0 hw v (1 : Int64) c0 h208 n0 A208.old (by decide) hc0 (chE e0)) (wd hw 7 rfl) (wd hw 6 rfl) (by decide) (by decide)) (kc := 0) (ks := 0) (by decide) (by decide) all0 (fun _ => sf0) fun v211 T211 h211 L211 A211 K211 q211 => ?_
  obtain ⟨rfl, hh211⟩ := q211
  obtain rfl := hh211.symm
  show Wp pG e below _ T211 (mkF m 383 _ [(.int c0), (.int (14 : Int32)), (.ref a155)])
  have c213 := (c209.keep K208)
  refine f_castore A211 at_383 (pc' := 384) rfl V208 ⟨by decide, by decide⟩ 14 (by decide) (Nat.le_of_ble_eq_true rfl) c0 (nar_id (chR e0)) (vs' := [(.int c13), (.int c12), (.int c11), (.int c10), (.int c9), (.int c8), (.int c7), (.int c6), (.int c5), (.int c4), (.int c3), (.int c2), (.int (46 : Int32)), (.int c1), (.int c0)]) rfl z155 (fun _ => (Safe.exa A211.hZ.alike c213 (by decide) (by decide))) fun T212 h212 A212 K212 V212 => ?_
  have Q214 : Keep h0 h212 [] := Q210.trans K212 (allS (Or.inr y155) all0)
  refine f_iload A212 at_384 (pc' := 386) rfl rfl ?_
  rcases hk4 with rfl | rfl | rfl | rfl
  · refine f_ifN A212 at_386 ((if0 _ _).trans (teq (by decide : (0 : Int32) = (0 : Int32))).2) (pc' := 389) rfl ?_
    refine f_aload A212 at_389 (pc' := 391) rfl rfl rfl ?_
    refine f_astore A212 at_391 (pc' := 393) rfl rfl (L' := #[.val (.long a), .second, .val (.int shape), .val (.long v), .second, .val (.int (0 : Int32)), .val (.ref a83), .val (.ref a99), .val (.ref a119), .val (.ref a155), .val (.ref a83), .unset, .unset, .unset]) rfl ?_
    refine f_lloadN A212 at_393 (pc' := 394) rfl rfl ?_
    refine f_ldc2J A212 at_394 (pc' := 397) rfl (wd hw 9 rfl) ?_
    refine f_lrem A212 at_397 (pc' := 398) rfl (by decide) (v % (1000 : Int64)) rfl ?_
    refine f_lstore A212 at_398 (pc' := 400) rfl (L' := #[.val (.long a), .second, .val (.int shape), .val (.long v), .second, .val (.int (0 : Int32)), .val (.ref a83), .val (.ref a99), .val (.ref a119), .val (.ref a155), .val (.ref a83), .val (.long (v % (1000 : Int64))), .second, .unset]) rfl ?_
    refine f_goto A212 at_400 (pc' := 450) (by decide) (by decide) ?_
    refine f_new A212 at_450 (pc' := 453) rfl (wd hw 20 rfl) (wd hw 21 rfl) (wd hw 22 rfl) (by decide) (by decide) fun a215 T215 h215 g215 A215 E215 X215 D215 => ?_
    have z215 : n0 ≤ a215 := Nat.le_trans A212.sz (Nat.le_of_eq g215.symm)
    have y215 : h0.size ≤ a215 := Nat.le_trans Q214.1 (Nat.le_of_eq g215.symm)
    have Q216 : Keep h0 h215 [] := Q214.ext E215
    have s215 := Safe.ext E215 (A212.ch rfl).1 (Safe.new (Nat.le_of_eq g215.symm))
    refine f_dup A215 at_453 (pc' := 454) rfl rfl ?_
    refine f_aload A215 at_454 (pc' := 456) rfl rfl rfl ?_
    have c217 := (((((((((((((((((((((((((((((((((V96.ext E99).keep K102 (ninS (Nat.ne_of_lt (Nat.lt_of_lt_of_le (Nat.lt_of_lt_of_le (Nat.lt_of_lt_of_le (Nat.lt_of_lt_of_le (Nat.lt_of_lt_of_le F83.lt K86.1) K88.1) K92.1) K96.1) (Nat.le_of_eq g99.symm))) nin0)).keep K105 (ninS (Nat.ne_of_lt (Nat.lt_of_lt_of_le (Nat.lt_of_lt_of_le (Nat.lt_of_lt_of_le (Nat.lt_of_lt_of_le (Nat.lt_of_lt_of_le F83.lt K86.1) K88.1) K92.1) K96.1) (Nat.le_of_eq g99.symm))) nin0)).keep K108 (ninS (Nat.ne_of_lt (Nat.lt_of_lt_of_le (Nat.lt_of_lt_of_le (Nat.lt_of_lt_of_le (Nat.lt_of_lt_of_le (Nat.lt_of_lt_of_le F83.lt K86.1) K88.1) K92.1) K96.1) (Nat.le_of_eq g99.symm))) nin0)).keep K112 (ninS (Nat.ne_of_lt (Nat.lt_of_lt_of_le (Nat.lt_of_lt_of_le (Nat.lt_of_lt_of_le (Nat.lt_of_lt_of_le (Nat.lt_of_lt_of_le F83.lt K86.1) K88.1) K92.1) K96.1) (Nat.le_of_eq g99.symm))) nin0)).keep K116 (ninS (Nat.ne_of_lt (Nat.lt_of_lt_of_le (Nat.lt_of_lt_of_le (Nat.lt_of_lt_of_le (Nat.lt_of_lt_of_le (Nat.lt_of_lt_of_le F83.lt K86.1) K88.1) K92.1) K96.1) (Nat.le_of_eq g99.symm))) nin0)).ext E119).keep K122 (ninS (Nat.ne_of_lt (Nat.lt_of_lt_of_le (Nat.lt_of_lt_of_le (Nat.lt_of_lt_of_le (Nat.lt_of_lt_of_le (Nat.lt_of_lt_of_le (Nat.lt_of_lt_of_le (Nat.lt_of_lt_of_le (Nat.lt_of_lt_of_le (Nat.lt_of_lt_of_le (Nat.lt_of_lt_of_le (Nat.lt_of_lt_of_le F83.lt K86.1) K88.1) K92.1) K96.1) E99.1) K102.1) K105.1) K108.1) K112.1) K116.1) (Nat.le_of_eq g119.symm))) nin0)).keep K125 (ninS (Nat.ne_of_lt (Nat.lt_of_lt_of_le (Nat.lt_of_lt_of_le (Nat.lt_of_lt_of_le (Nat.lt_of_lt_of_le (Nat.lt_of_lt_of_le (Nat.lt_of_lt_of_le (Nat.lt_of_lt_of_le (Nat.lt_of_lt_of_le (Nat.lt_of_lt_of_le (Nat.lt_of_lt_of_le (Nat.lt_of_lt_of_le F83.lt K86.1) K88.1) K92.1) K96.1) E99.1) K102.1) K105.1) K108.1) K112.1) K116.1) (Nat.le_of_eq g119.symm))) nin0)).keep K129 (ninS (Nat.ne_of_lt (Nat.lt_of_lt_of_le (Nat.lt_of_lt_of_le (Nat.lt_of_lt_of_le (Nat.lt_of_lt_of_le (Nat.lt_of_lt_of_le (Nat.lt_of_lt_of_le (Nat.lt_of_lt_of_le (Nat.lt_of_lt_of_le (Nat.lt_of_lt_of_le (Nat.lt_of_lt_of_le (Nat.lt_of_lt_of_le F83.lt K86.1) K88.1) K92.1) K96.1) E99.1) K102.1) K105.1) K108.1) K112.1) K116.1) (Nat.le_of_eq g119.symm))) nin0)).keep K133 (ninS (Nat.ne_of_lt (Nat.lt_of_lt_of_le (Nat.lt_of_lt_of_le (Nat.lt_of_lt_of_le (Nat.lt_of_lt_of_le (Nat.lt_of_lt_of_le (Nat.lt_of_lt_of_le (Nat.lt_of_lt_of_le (Nat.lt_of_lt_of_le (Nat.lt_of_lt_of_le (Nat.lt_of_lt_of_le (Nat.lt_of_lt_of_le F83.lt K86.1) K88.1) K92.1) K96.1) E99.1) K102.1) K105.1) K108.1) K112.1) K116.1) (Nat.le_of_eq g119.symm))) nin0)).keep K137 (ninS (Nat.ne_of_lt (Nat.lt_of_lt_of_le (Nat.lt_of_lt_of_le (Nat.lt_of_lt_of_le (Nat.lt_of_lt_of_le (Nat.lt_of_lt_of_le (Nat.lt_of_lt_of_le (Nat.lt_of_lt_of_le (Nat.lt_of_lt_of_le (Nat.lt_of_lt_of_le (Nat.lt_of_lt_of_le (Nat.lt_of_lt_of_le F83.lt K86.1) K88.1) K92.1) K96.1) E99.1) K102.1) K105.1) K108.1) K112.1) K116.1) (Nat.le_of_eq g119.symm))) nin0)).keep K141 (ninS (Nat.ne_of_lt (Nat.lt_of_lt_of_le (Nat.lt_of_lt_of_le (Nat.lt_of_lt_of_le (Nat.lt_of_lt_of_le (Nat.lt_of_lt_of_le (Nat.lt_of_lt_of_le (Nat.lt_of_lt_of_le (Nat.lt_of_lt_of_le (Nat.lt_of_lt_of_le (Nat.lt_of_lt_of_le (Nat.lt_of_lt_of_le F83.lt K86.1) K88.1) K92.1) K96.1) E99.1) K102.1) K105.1) K108.1) K112.1) K116.1) (Nat.le_of_eq g119.symm))) nin0)).keep K144 (ninS (Nat.ne_of_lt (Nat.lt_of_lt_of_le (Nat.lt_of_lt_of_le (Nat.lt_of_lt_of_le (Nat.lt_of_lt_of_le (Nat.lt_of_lt_of_le (Nat.lt_of_lt_of_le (Nat.lt_of_lt_of_le (Nat.lt_of_lt_of_le (Nat.lt_of_lt_of_le (Nat.lt_of_lt_of_le (Nat.lt_of_lt_of_le F83.lt K86.1) K88.1) K92.1) K96.1) E99.1) K102.1) K105.1) K108.1) K112.1) K116.1) (Nat.le_of_eq g119.symm))) nin0)).keep K148 (ninS (Nat.ne_of_lt (Nat.lt_of_lt_of_le (Nat.lt_of_lt_of_le (Nat.lt_of_lt_of_le (Nat.lt_of_lt_of_le (Nat.lt_of_lt_of_le (Nat.lt_of_lt_of_le (Nat.lt_of_lt_of_le (Nat.lt_of_lt_of_le (Nat.lt_of_lt_of_le (Nat.lt_of_lt_of_le (Nat.lt_of_lt_of_le F83.lt K86.1) K88.1) K92.1) K96.1) E99.1) K102.1) K105.1) K108.1) K112.1) K116.1) (Nat.le_of_eq g119.symm))) nin0)).keep K152 (ninS (Nat.ne_of_lt (Nat.lt_of_lt_of_le (Nat.lt_of_lt_of_le (Nat.lt_of_lt_of_le (Nat.lt_of_lt_of_le (Nat.lt_of_lt_of_le (Nat.lt_of_lt_of_le (Nat.lt_of_lt_of_le (Nat.lt_of_lt_of_le (Nat.lt_of_lt_of_le (Nat.lt_of_lt_of_le (Nat.lt_of_lt_of_le F83.lt K86.1) K88.1) K92.1) K96.1) E99.1) K102.1) K105.1) K108.1) K112.1) K116.1) (Nat.le_of_eq g119.symm))) nin0)).ext E155).keep K158 (ninS (Nat.ne_of_lt (Nat.lt_of_lt_of_le (Nat.lt_of_lt_of_le (Nat.lt_of_lt_of_le (Nat.lt_of_lt_of_le (Nat.lt_of_lt_of_le (Nat.lt_of_lt_of_le (Nat.lt_of_lt_of_le (Nat.lt_of_lt_of_le (Nat.lt_of_lt_of_le (Nat.lt_of_lt_of_le (Nat.lt_of_lt_of_le (Nat.lt_of_lt_of_le (Nat.lt_of_lt_of_le (Nat.lt_of_lt_of_le (Nat.lt_of_lt_of_le (Nat.lt_of_lt_of_le (Nat.lt_of_lt_of_le (Nat.lt_of_lt_of_le (Nat.lt_of_lt_of_le (Nat.lt_of_lt_of_le (Nat.lt_of_lt_of_le F83.lt K86.1) K88.1) K92.1) K96.1) E99.1) K102.1) K105.1) K108.1) K112.1) K116.1) E119.1) K122.1) K125.1) K129.1) K133.1) K137.1) K141.1) K144.1) K148.1) K152.1) (Nat.le_of_eq g155.symm))) nin0)).keep K161 (ninS (Nat.ne_of_lt (Nat.lt_of_lt_of_le (Nat.lt_of_lt_of_le (Nat.lt_of_lt_of_le (Nat.lt_of_lt_of_le (Nat.lt_of_lt_of_le (Nat.lt_of_lt_of_le (Nat.lt_of_lt_of_le (Nat.lt_of_lt_of_le (Nat.lt_of_lt_of_le (Nat.lt_of_lt_of_le (Nat.lt_of_lt_of_le (Nat.lt_of_lt_of_le (Nat.lt_of_lt_of_le (Nat.lt_of_lt_of_le (Nat.lt_of_lt_of_le (Nat.lt_of_lt_of_le (Nat.lt_of_lt_of_le (Nat.lt_of_lt_of_le (Nat.lt_of_lt_of_le (Nat.lt_of_lt_of_le (Nat.lt_of_lt_of_le F83.lt K86.1) K88.1) K92.1) K96.1) E99.1) K102.1) K105.1) K108.1) K112.1) K116.1) E119.1) K122.1) K125.1) K129.1) K133.1) K137.1) K141.1) K144.1) K148.1) K152.1) (Nat.le_of_eq g155.symm))) nin0)).keep K165 (ninS (Nat.ne_of_lt (Nat.lt_of_lt_of_le (Nat.lt_of_lt_of_le (Nat.lt_of_lt_of_le (Nat.lt_of_lt_of_le (Nat.lt_of_lt_of_le (Nat.lt_of_lt_of_le (Nat.lt_of_lt_of_le (Nat.lt_of_lt_of_le (Nat.lt_of_lt_of_le (Nat.lt_of_lt_of_le (Nat.lt_of_lt_of_le (Nat.lt_of_lt_of_le (Nat.lt_of_lt_of_le (Nat.lt_of_lt_of_le (Nat.lt_of_lt_of_le (Nat.lt_of_lt_of_le (Nat.lt_of_lt_of_le (Nat.lt_of_lt_of_le (Nat.lt_of_lt_of_le (Nat.lt_of_lt_of_le (Nat.lt_of_lt_of_le F83.lt K86.1) K88.1) K92.1) K96.1) E99.1) K102.1) K105.1) K108.1) K112.1) K116.1) E119.1) K122.1) K125.1) K129.1) K133.1) K137.1) K141.1) K144.1) K148.1) K152.1) (Nat.le_of_eq g155.symm))) nin0)).keep K169 (ninS (Nat.ne_of_lt (Nat.lt_of_lt_of_le (Nat.lt_of_lt_of_le (Nat.lt_of_lt_of_le (Nat.lt_of_lt_of_le (Nat.lt_of_lt_of_le (Nat.lt_of_lt_of_le (Nat.lt_of_lt_of_le (Nat.lt_of_lt_of_le (Nat.lt_of_lt_of_le (Nat.lt_of_lt_of_le (Nat.lt_of_lt_of_le (Nat.lt_of_lt_of_le (Nat.lt_of_lt_of_le (Nat.lt_of_lt_of_le (Nat.lt_of_lt_of_le (Nat.lt_of_lt_of_le (Nat.lt_of_lt_of_le (Nat.lt_of_lt_of_le (Nat.lt_of_lt_of_le (Nat.lt_of_lt_of_le (Nat.lt_of_lt_of_le F83.lt K86.1) K88.1) K92.1) K96.1) E99.1) K102.1) K105.1) K108.1) K112.1) K116.1) E119.1) K122.1) K125.1) K129.1) K133.1) K137.1) K141.1) K144.1) K148.1) K152.1) (Nat.le_of_eq g155.symm))) nin0)).keep K173 (ninS (Nat.ne_of_lt (Nat.lt_of_lt_of_le (Nat.lt_of_lt_of_le (Nat.lt_of_lt_of_le (Nat.lt_of_lt_of_le (Nat.lt_of_lt_of_le (Nat.lt_of_lt_of_le (Nat.lt_of_lt_of_le (Nat.lt_of_lt_of_le (Nat.lt_of_lt_of_le (Nat.lt_of_lt_of_le (Nat.lt_of_lt_of_le (Nat.lt_of_lt_of_le (Nat.lt_of_lt_of_le (Nat.lt_of_lt_of_le (Nat.lt_of_lt_of_le (Nat.lt_of_lt_of_le (Nat.lt_of_lt_of_le (Nat.lt_of_lt_of_le (Nat.lt_of_lt_of_le (Nat.lt_of_lt_of_le (Nat.lt_of_lt_of_le F83.lt K86.1) K88.1) K92.1) K96.1) E99.1) K102.1) K105.1) K108.1) K112.1) K116.1) E119.1) K122.1) K125.1) K129.1) K133.1) K137.1) K141.1) K144.1) K148.1) K152.1) (Nat.le_of_eq g155.symm))) nin0)).keep K177 (ninS (Nat.ne_of_lt (Nat.lt_of_lt_of_le (Nat.lt_of_lt_of_le (Nat.lt_of_lt_of_le (Nat.lt_of_lt_of_le (Nat.lt_of_lt_of_le (Nat.lt_of_lt_of_le (Nat.lt_of_lt_of_le (Nat.lt_of_lt_of_le (Nat.lt_of_lt_of_le (Nat.lt_of_lt_of_le (Nat.lt_of_lt_of_le (Nat.lt_of_lt_of_le (Nat.lt_of_lt_of_le (Nat.lt_of_lt_of_le (Nat.lt_of_lt_of_le (Nat.lt_of_lt_of_le (Nat.lt_of_lt_of_le (Nat.lt_of_lt_of_le (Nat.lt_of_lt_of_le (Nat.lt_of_lt_of_le (Nat.lt_of_lt_of_le F83.lt K86.1) K88.1) K92.1) K96.1) E99.1) K102.1) K105.1) K108.1) K112.1) K116.1) E119.1) K122.1) K125.1) K129.1) K133.1) K137.1) K141.1) K144.1) K148.1) K152.1) (Nat.le_of_eq g155.symm))) nin0)).keep K181 (ninS (Nat.ne_of_lt (Nat.lt_of_lt_of_le (Nat.lt_of_lt_of_le (Nat.lt_of_lt_of_le (Nat.lt_of_lt_of_le (Nat.lt_of_lt_of_le (Nat.lt_of_lt_of_le (Nat.lt_of_lt_of_le (Nat.lt_of_lt_of_le (Nat.lt_of_lt_of_le (Nat.lt_of_lt_of_le (Nat.lt_of_lt_of_le (Nat.lt_of_lt_of_le (Nat.lt_of_lt_of_le (Nat.lt_of_lt_of_le (Nat.lt_of_lt_of_le (Nat.lt_of_lt_of_le (Nat.lt_of_lt_of_le (Nat.lt_of_lt_of_le (Nat.lt_of_lt_of_le (Nat.lt_of_lt_of_le (Nat.lt_of_lt_of_le F83.lt K86.1) K88.1) K92.1) K96.1) E99.1) K102.1) K105.1) K108.1) K112.1) K116.1) E119.1) K122.1) K125.1) K129.1) K133.1) K137.1) K141.1) K144.1) K148.1) K152.1) (Nat.le_of_eq g155.symm))) nin0)).keep K185 (ninS (Nat.ne_of_lt (Nat.lt_of_lt_of_le (Nat.lt_of_lt_of_le (Nat.lt_of_lt_of_le (Nat.lt_of_lt_of_le (Nat.lt_of_lt_of_le (Nat.lt_of_lt_of_le (Nat.lt_of_lt_of_le (Nat.lt_of_lt_of_le (Nat.lt_of_lt_of_le (Nat.lt_of_lt_of_le (Nat.lt_of_lt_of_le (Nat.lt_of_lt_of_le (Nat.lt_of_lt_of_le (Nat.lt_of_lt_of_le (Nat.lt_of_lt_of_le (Nat.lt_of_lt_of_le (Nat.lt_of_lt_of_le (Nat.lt_of_lt_of_le (Nat.lt_of_lt_of_le (Nat.lt_of_lt_of_le (Nat.lt_of_lt_of_le F83.lt K86.1) K88.1) K92.1) K96.1) E99.1) K102.1) K105.1) K108.1) K112.1) K116.1) E119.1) K122.1) K125.1) K129.1) K133.1) K137.1) K141.1) K144.1) K148.1) K152.1) (Nat.le_of_eq g155.symm))) nin0)).keep K189 (ninS (Nat.ne_of_lt (Nat.lt_of_lt_of_le (Nat.lt_of_lt_of_le (Nat.lt_of_lt_of_le (Nat.lt_of_lt_of_le (Nat.lt_of_lt_of_le (Nat.lt_of_lt_of_le (Nat.lt_of_lt_of_le (Nat.lt_of_lt_of_le (Nat.lt_of_lt_of_le (Nat.lt_of_lt_of_le (Nat.lt_of_lt_of_le (Nat.lt_of_lt_of_le (Nat.lt_of_lt_of_le (Nat.lt_of_lt_of_le (Nat.lt_of_lt_of_le (Nat.lt_of_lt_of_le (Nat.lt_of_lt_of_le (Nat.lt_of_lt_of_le (Nat.lt_of_lt_of_le (Nat.lt_of_lt_of_le (Nat.lt_of_lt_of_le F83.lt K86.1) K88.1) K92.1) K96.1) E99.1) K102.1) K105.1) K108.1) K112.1) K116.1) E119.1) K122.1) K125.1) K129.1) K133.1) K137.1) K141.1) K144.1) K148.1) K152.1) (Nat.le_of_eq g155.symm))) nin0)).keep K193 (ninS (Nat.ne_of_lt (Nat.lt_of_lt_of_le (Nat.lt_of_lt_of_le (Nat.lt_of_lt_of_le (Nat.lt_of_lt_of_le (Nat.lt_of_lt_of_le (Nat.lt_of_lt_of_le (Nat.lt_of_lt_of_le (Nat.lt_of_lt_of_le (Nat.lt_of_lt_of_le (Nat.lt_of_lt_of_le (Nat.lt_of_lt_of_le (Nat.lt_of_lt_of_le (Nat.lt_of_lt_of_le (Nat.lt_of_lt_of_le (Nat.lt_of_lt_of_le (Nat.lt_of_lt_of_le (Nat.lt_of_lt_of_le (Nat.lt_of_lt_of_le (Nat.lt_of_lt_of_le (Nat.lt_of_lt_of_le (Nat.lt_of_lt_of_le F83.lt K86.1) K88.1) K92.1) K96.1) E99.1) K102.1) K105.1) K108.1) K112.1) K116.1) E119.1) K122.1) K125.1) K129.1) K133.1) K137.1) K141.1) K144.1) K148.1) K152.1) (Nat.le_of_eq g155.symm))) nin0)).keep K197 (ninS (Nat.ne_of_lt (Nat.lt_of_lt_of_le (Nat.lt_of_lt_of_le (Nat.lt_of_lt_of_le (Nat.lt_of_lt_of_le (Nat.lt_of_lt_of_le (Nat.lt_of_lt_of_le (Nat.lt_of_lt_of_le (Nat.lt_of_lt_of_le (Nat.lt_of_lt_of_le (Nat.lt_of_lt_of_le (Nat.lt_of_lt_of_le (Nat.lt_of_lt_of_le (Nat.lt_of_lt_of_le (Nat.lt_of_lt_of_le (Nat.lt_of_lt_of_le (Nat.lt_of_lt_of_le (Nat.lt_of_lt_of_le (Nat.lt_of_lt_of_le (Nat.lt_of_lt_of_le (Nat.lt_of_lt_of_le (Nat.lt_of_lt_of_le F83.lt K86.1) K88.1) K92.1) K96.1) E99.1) K102.1) K105.1) K108.1) K112.1) K116.1) E119.1) K122.1) K125.1) K129.1) K133.1) K137.1) K141.1) K144.1) K148.1) K152.1) (Nat.le_of_eq g155.symm))) nin0)).keep K201 (ninS (Nat.ne_of_lt (Nat.lt_of_lt_of_le (Nat.lt_of_lt_of_le (Nat.lt_of_lt_of_le (Nat.lt_of_lt_of_le (Nat.lt_of_lt_of_le (Nat.lt_of_lt_of_le (Nat.lt_of_lt_of_le (Nat.lt_of_lt_of_le (Nat.lt_of_lt_of_le (Nat.lt_of_lt_of_le (Nat.lt_of_lt_of_le (Nat.lt_of_lt_of_le (Nat.lt_of_lt_of_le (Nat.lt_of_lt_of_le (Nat.lt_of_lt_of_le (Nat.lt_of_lt_of_le (Nat.lt_of_lt_of_le (Nat.lt_of_lt_of_le (Nat.lt_of_lt_of_le (Nat.lt_of_lt_of_le (Nat.lt_of_lt_of_le F83.lt K86.1) K88.1) K92.1) K96.1) E99.1) K102.1) K105.1) K108.1) K112.1) K116.1) E119.1) K122.1) K125.1) K129.1) K133.1) K137.1) K141.1) K144.1) K148.1) K152.1) (Nat.le_of_eq g155.symm))) nin0)).keep K204 (ninS (Nat.ne_of_lt (Nat.lt_of_lt_of_le (Nat.lt_of_lt_of_le (Nat.lt_of_lt_of_le (Nat.lt_of_lt_of_le (Nat.lt_of_lt_of_le (Nat.lt_of_lt_of_le (Nat.lt_of_lt_of_le (Nat.lt_of_lt_of_le (Nat.lt_of_lt_of_le (Nat.lt_of_lt_of_le (Nat.lt_of_lt_of_le (Nat.lt_of_lt_of_le (Nat.lt_of_lt_of_le (Nat.lt_of_lt_of_le (Nat.lt_of_lt_of_le (Nat.lt_of_lt_of_le (Nat.lt_of_lt_of_le (Nat.lt_of_lt_of_le (Nat.lt_of_lt_of_le (Nat.lt_of_lt_of_le (Nat.lt_of_lt_of_le F83.lt K86.1) K88.1) K92.1) K96.1) E99.1) K102.1) K105.1) K108.1) K112.1) K116.1) E119.1) K122.1) K125.1) K129.1) K133.1) K137.1) K141.1) K144.1) K148.1) K152.1) (Nat.le_of_eq g155.symm))) nin0)).keep K208 (ninS (Nat.ne_of_lt (Nat.lt_of_lt_of_le (Nat.lt_of_lt_of_le (Nat.lt_of_lt_of_le (Nat.lt_of_lt_of_le (Nat.lt_of_lt_of_le (Nat.lt_of_lt_of_le (Nat.lt_of_lt_of_le (Nat.lt_of_lt_of_le (Nat.lt_of_lt_of_le (Nat.lt_of_lt_of_le (Nat.lt_of_lt_of_le (Nat.lt_of_lt_of_le (Nat.lt_of_lt_of_le (Nat.lt_of_lt_of_le (Nat.lt_of_lt_of_le (Nat.lt_of_lt_of_le (Nat.lt_of_lt_of_le (Nat.lt_of_lt_of_le (Nat.lt_of_lt_of_le (Nat.lt_of_lt_of_le (Nat.lt_of_lt_of_le F83.lt K86.1) K88.1) K92.1) K96.1) E99.1) K102.1) K105.1) K108.1) K112.1) K116.1) E119.1) K122.1) K125.1) K129.1) K133.1) K137.1) K141.1) K144.1) K148.1) K152.1) (Nat.le_of_eq g155.symm))) nin0)).keep K212 (ninS (Nat.ne_of_lt (Nat.lt_of_lt_of_le (Nat.lt_of_lt_of_le (Nat.lt_of_lt_of_le (Nat.lt_of_lt_of_le (Nat.lt_of_lt_of_le (Nat.lt_of_lt_of_le (Nat.lt_of_lt_of_le (Nat.lt_of_lt_of_le (Nat.lt_of_lt_of_le (Nat.lt_of_lt_of_le (Nat.lt_of_lt_of_le (Nat.lt_of_lt_of_le (Nat.lt_of_lt_of_le (Nat.lt_of_lt_of_le (Nat.lt_of_lt_of_le (Nat.lt_of_lt_of_le (Nat.lt_of_lt_of_le (Nat.lt_of_lt_of_le (Nat.lt_of_lt_of_le (Nat.lt_of_lt_of_le (Nat.lt_of_lt_of_le F83.lt K86.1) K88.1) K92.1) K96.1) E99.1) K102.1) K105.1) K108.1) K112.1) K116.1) E119.1) K122.1) K125.1) K129.1) K133.1) K137.1) K141.1) K144.1) K148.1) K152.1) (Nat.le_of_eq g155.symm))) nin0)).ext E215)
    refine f_callI A215 (a := a215) at_456 (pc' := 459) rfl rfl (wd hw 23 rfl) (wd hw 24 rfl) (wd hw 25 rfl) (by decide) pd4 [(.ref a83)] [(.ref a215)] rfl rfl rfl 1 (Nat.le_of_eq rfl) (payNew (W := 1) A215 hw (wd hw 21 rfl) (cs := [c2, (46 : Int32), c1, c0]) 4 z215 X215 (show Fld Z h215 a215 "java/lang/String" "value" "[B" .null from D215 (Or.inr (wd hw 48 rfl)) (ty := (.array .byte)) (by decide)) (show Fld Z h215 a215 "java/lang/String" "coder" "B" (.int (0 : Int32)) from D215 (Or.inr (wd hw 46 rfl)) (ty := .byte) (by decide)) c217 O2 P5 rfl rfl (by decide) (by decide) (lc (lat_of (chE e2)) (lc (by decide) (lc (lat_of (chE e1)) (lc (lat_of (chE e0)) ln)))) (by decide) (by decide)) (kc := 1) (ks := 4) (by decide) (by decide) (allS z215 all0) (fun _ => (sfS s215 sf0)) fun v218 T218 h218 L218 A218 K218 q218 => ?_
    have Q219 : Keep h0 h218 [] := Q216.trans K218 (allS (Or.inr y215) all0)
    obtain ⟨rfl, t218, tz218, tg218, tn218, G218⟩ := q218
    show Wp pG e below _ T218 (mkF m 459 _ [(.ref a215)])
    refine f_astore A218 at_459 (pc' := 461) rfl rfl (L' := #[.val (.long a), .second, .val (.int shape), .val (.long v), .second, .val (.int (0 : Int32)), .val (.ref a83), .val (.ref a99), .val (.ref a119), .val (.ref a155), .val (.ref a83), .val (.long (v % (1000 : Int64))), .second, .val (.ref a215)]) rfl ?_
    refine f_ldcO A218 at_461 (pc' := 463) rfl (wd hw 49 rfl) (strA hw) hEL (n := 24) (by decide) (by decide) (by decide) (by decide) fun a220 vm220 T220 h220 A220 E220 C220 Li220 => ?_
    have Q221 : Keep h0 h220 [] := Q219.ext E220
    refine f_aload A220 at_463 (pc' := 465) rfl rfl rfl ?_
    have c222 := (G218.ext E220)
    refine f_callS A220 at_465 (pc' := 468) rfl (wd hw 52 rfl) (wd hw 53 rfl) (wd hw 54 rfl) (wd hw 55 rfl) (by decide) pd5 [(.ref a220), (.ref a215)] [] rfl rfl rfl 0 (Nat.le_of_eq rfl) (CN.pay (W := 0) A220 (m_nn4 l Z a0 hw a220 a215 t218 V c2 c1 c0 zc O2 P5 fm O4 rG3 h220 n0 A220.old c222 (lc (lat_of (chE e2)) (lc (by decide) (lc (lat_of (chE e1)) (lc (lat_of (chE e0)) ln)))) e2 e1 e0) (wd hw 55 rfl) (wd hw 54 rfl) (by decide) (by decide)) (kc := 0) (ks := 0) (by decide) (by decide) all0 (fun _ => sf0) fun v223 T223 h223 L223 A223 K223 q223 => ?_
    obtain ⟨r223, rfl, hr223, hh223⟩ := q223
    obtain rfl := hh223.symm
    show Wp pG e below _ T223 (mkF m 468 _ [(.long r223)])
    refine f_lload A223 at_468 (pc' := 470) rfl rfl ?_
    refine f_lcmp A223 at_470 (pc' := 471) rfl (lcmpW r223 (v % (1000 : Int64))) rfl ?_
    refine f_ifN A223 at_471 ((if0 _ _).trans (teq ((lw_eq _ _).mpr (Int64.toInt_inj.mp (by rw [hr223, pos_rem hv0.1 (d := 1000) rfl, hV])))).2) (pc' := 474) rfl ?_
    refine f_iconst A223 at_474 (pc' := 475) rfl 1 rfl ?_
    refine f_goto A223 at_475 (pc' := 479) (by decide) (by decide) ?_
    exact f_retBW A223 hEL hlk hret at_479 (by decide) (1 : Int32) (by decide) (by decide) (by decide) Q221 rfl
  · refine f_ifY A212 at_386 ((if0 _ _).trans (feq (by decide : ¬ (1 : Int32) = (0 : Int32))).2) (pc' := 403) (by decide) (by decide) ?_
    refine f_iload A212 at_403 (pc' := 405) rfl rfl ?_
    refine f_iconst A212 at_405 (pc' := 406) rfl 1 rfl ?_
    refine f_icN A212 at_406 (teq (by decide : (1 : Int32) = (1 : Int32))).2 (pc' := 409) rfl ?_
    refine f_aload A212 at_409 (pc' := 411) rfl rfl rfl ?_
    refine f_astore A212 at_411 (pc' := 413) rfl rfl (L' := #[.val (.long a), .second, .val (.int shape), .val (.long v), .second, .val (.int (1 : Int32)), .val (.ref a83), .val (.ref a99), .val (.ref a119), .val (.ref a155), .val (.ref a99), .unset, .unset, .unset]) rfl ?_
    refine f_lloadN A212 at_413 (pc' := 414) rfl rfl ?_
    refine f_ldc2J A212 at_414 (pc' := 417) rfl (wd hw 13 rfl) ?_
    refine f_lrem A212 at_417 (pc' := 418) rfl (by decide) (v % (10000 : Int64)) rfl ?_
    refine f_lstore A212 at_418 (pc' := 420) rfl (L' := #[.val (.long a), .second, .val (.int shape), .val (.long v), .second, .val (.int (1 : Int32)), .val (.ref a83), .val (.ref a99), .val (.ref a119), .val (.ref a155), .val (.ref a99), .val (.long (v % (10000 : Int64))), .second, .unset]) rfl ?_
    refine f_goto A212 at_420 (pc' := 450) (by decide) (by decide) ?_
    refine f_new A212 at_450 (pc' := 453) rfl (wd hw 20 rfl) (wd hw 21 rfl) (wd hw 22 rfl) (by decide) (by decide) fun a224 T224 h224 g224 A224 E224 X224 D224 => ?_
    have z224 : n0 ≤ a224 := Nat.le_trans A212.sz (Nat.le_of_eq g224.symm)
    have y224 : h0.size ≤ a224 := Nat.le_trans Q214.1 (Nat.le_of_eq g224.symm)
    have Q225 : Keep h0 h224 [] := Q214.ext E224
    have s224 := Safe.ext E224 (A212.ch rfl).1 (Safe.new (Nat.le_of_eq g224.symm))
    refine f_dup A224 at_453 (pc' := 454) rfl rfl ?_
    refine f_aload A224 at_454 (pc' := 456) rfl rfl rfl ?_
    have c226 := (((((((((((((((((((((((((((V116.ext E119).keep K122 (ninS (Nat.ne_of_lt (Nat.lt_of_lt_of_le (Nat.lt_of_lt_of_le (Nat.lt_of_lt_of_le (Nat.lt_of_lt_of_le (Nat.lt_of_lt_of_le (Nat.lt_of_lt_of_le F99.lt K102.1) K105.1) K108.1) K112.1) K116.1) (Nat.le_of_eq g119.symm))) nin0)).keep K125 (ninS (Nat.ne_of_lt (Nat.lt_of_lt_of_le (Nat.lt_of_lt_of_le (Nat.lt_of_lt_of_le (Nat.lt_of_lt_of_le (Nat.lt_of_lt_of_le (Nat.lt_of_lt_of_le F99.lt K102.1) K105.1) K108.1) K112.1) K116.1) (Nat.le_of_eq g119.symm))) nin0)).keep K129 (ninS (Nat.ne_of_lt (Nat.lt_of_lt_of_le (Nat.lt_of_lt_of_le (Nat.lt_of_lt_of_le (Nat.lt_of_lt_of_le (Nat.lt_of_lt_of_le (Nat.lt_of_lt_of_le F99.lt K102.1) K105.1) K108.1) K112.1) K116.1) (Nat.le_of_eq g119.symm))) nin0)).keep K133 (ninS (Nat.ne_of_lt (Nat.lt_of_lt_of_le (Nat.lt_of_lt_of_le (Nat.lt_of_lt_of_le (Nat.lt_of_lt_of_le (Nat.lt_of_lt_of_le (Nat.lt_of_lt_of_le F99.lt K102.1) K105.1) K108.1) K112.1) K116.1) (Nat.le_of_eq g119.symm))) nin0)).keep K137 (ninS (Nat.ne_of_lt (Nat.lt_of_lt_of_le (Nat.lt_of_lt_of_le (Nat.lt_of_lt_of_le (Nat.lt_of_lt_of_le (Nat.lt_of_lt_of_le (Nat.lt_of_lt_of_le F99.lt K102.1) K105.1) K108.1) K112.1) K116.1) (Nat.le_of_eq g119.symm))) nin0)).keep K141 (ninS (Nat.ne_of_lt (Nat.lt_of_lt_of_le (Nat.lt_of_lt_of_le (Nat.lt_of_lt_of_le (Nat.lt_of_lt_of_le (Nat.lt_of_lt_of_le (Nat.lt_of_lt_of_le F99.lt K102.1) K105.1) K108.1) K112.1) K116.1) (Nat.le_of_eq g119.symm))) nin0)).keep K144 (ninS (Nat.ne_of_lt (Nat.lt_of_lt_of_le (Nat.lt_of_lt_of_le (Nat.lt_of_lt_of_le (Nat.lt_of_lt_of_le (Nat.lt_of_lt_of_le (Nat.lt_of_lt_of_le F99.lt K102.1) K105.1) K108.1) K112.1) K116.1) (Nat.le_of_eq g119.symm))) nin0)).keep K148 (ninS (Nat.ne_of_lt (Nat.lt_of_lt_of_le (Nat.lt_of_lt_of_le (Nat.lt_of_lt_of_le (Nat.lt_of_lt_of_le (Nat.lt_of_lt_of_le (Nat.lt_of_lt_of_le F99.lt K102.1) K105.1) K108.1) K112.1) K116.1) (Nat.le_of_eq g119.symm))) nin0)).keep K152 (ninS (Nat.ne_of_lt (Nat.lt_of_lt_of_le (Nat.lt_of_lt_of_le (Nat.lt_of_lt_of_le (Nat.lt_of_lt_of_le (Nat.lt_of_lt_of_le (Nat.lt_of_lt_of_le F99.lt K102.1) K105.1) K108.1) K112.1) K116.1) (Nat.le_of_eq g119.symm))) nin0)).ext E155).keep K158 (ninS (Nat.ne_of_lt (Nat.lt_of_lt_of_le (Nat.lt_of_lt_of_le (Nat.lt_of_lt_of_le (Nat.lt_of_lt_of_le (Nat.lt_of_lt_of_le (Nat.lt_of_lt_of_le (Nat.lt_of_lt_of_le (Nat.lt_of_lt_of_le (Nat.lt_of_lt_of_le (Nat.lt_of_lt_of_le (Nat.lt_of_lt_of_le (Nat.lt_of_lt_of_le (Nat.lt_of_lt_of_le (Nat.lt_of_lt_of_le (Nat.lt_of_lt_of_le (Nat.lt_of_lt_of_le F99.lt K102.1) K105.1) K108.1) K112.1) K116.1) E119.1) K122.1) K125.1) K129.1) K133.1) K137.1) K141.1) K144.1) K148.1) K152.1) (Nat.le_of_eq g155.symm))) nin0)).keep K161 (ninS (Nat.ne_of_lt (Nat.lt_of_lt_of_le (Nat.lt_of_lt_of_le (Nat.lt_of_lt_of_le (Nat.lt_of_lt_of_le (Nat.lt_of_lt_of_le (Nat.lt_of_lt_of_le (Nat.lt_of_lt_of_le (Nat.lt_of_lt_of_le (Nat.lt_of_lt_of_le (Nat.lt_of_lt_of_le (Nat.lt_of_lt_of_le (Nat.lt_of_lt_of_le (Nat.lt_of_lt_of_le (Nat.lt_of_lt_of_le (Nat.lt_of_lt_of_le (Nat.lt_of_lt_of_le F99.lt K102.1) K105.1) K108.1) K112.1) K116.1) E119.1) K122.1) K125.1) K129.1) K133.1) K137.1) K141.1) K144.1) K148.1) K152.1) (Nat.le_of_eq g155.symm))) nin0)).keep K165 (ninS (Nat.ne_of_lt (Nat.lt_of_lt_of_le (Nat.lt_of_lt_of_le (Nat.lt_of_lt_of_le (Nat.lt_of_lt_of_le (Nat.lt_of_lt_of_le (Nat.lt_of_lt_of_le (Nat.lt_of_lt_of_le (Nat.lt_of_lt_of_le (Nat.lt_of_lt_of_le (Nat.lt_of_lt_of_le (Nat.lt_of_lt_of_le (Nat.lt_of_lt_of_le (Nat.lt_of_lt_of_le (Nat.lt_of_lt_of_le (Nat.lt_of_lt_of_le (Nat.lt_of_lt_of_le F99.lt K102.1) K105.1) K108.1) K112.1) K116.1) E119.1) K122.1) K125.1) K129.1) K133.1) K137.1) K141.1) K144.1) K148.1) K152.1) (Nat.le_of_eq g155.symm))) nin0)).keep K169 (ninS (Nat.ne_of_lt (Nat.lt_of_lt_of_le (Nat.lt_of_lt_of_le (Nat.lt_of_lt_of_le (Nat.lt_of_lt_of_le (Nat.lt_of_lt_of_le (Nat.lt_of_lt_of_le (Nat.lt_of_lt_of_le (Nat.lt_of_lt_of_le (Nat.lt_of_lt_of_le (Nat.lt_of_lt_of_le (Nat.lt_of_lt_of_le (Nat.lt_of_lt_of_le (Nat.lt_of_lt_of_le (Nat.lt_of_lt_of_le (Nat.lt_of_lt_of_le (Nat.lt_of_lt_of_le F99.lt K102.1) K105.1) K108.1) K112.1) K116.1) E119.1) K122.1) K125.1) K129.1) K133.1) K137.1) K141.1) K144.1) K148.1) K152.1) (Nat.le_of_eq g155.symm))) nin0)).keep K173 (ninS (Nat.ne_of_lt (Nat.lt_of_lt_of_le (Nat.lt_of_lt_of_le (Nat.lt_of_lt_of_le (Nat.lt_of_lt_of_le (Nat.lt_of_lt_of_le (Nat.lt_of_lt_of_le (Nat.lt_of_lt_of_le (Nat.lt_of_lt_of_le (Nat.lt_of_lt_of_le (Nat.lt_of_lt_of_le (Nat.lt_of_lt_of_le (Nat.lt_of_lt_of_le (Nat.lt_of_lt_of_le (Nat.lt_of_lt_of_le (Nat.lt_of_lt_of_le (Nat.lt_of_lt_of_le F99.lt K102.1) K105.1) K108.1) K112.1) K116.1) E119.1) K122.1) K125.1) K129.1) K133.1) K137.1) K141.1) K144.1) K148.1) K152.1) (Nat.le_of_eq g155.symm))) nin0)).keep K177 (ninS (Nat.ne_of_lt (Nat.lt_of_lt_of_le (Nat.lt_of_lt_of_le (Nat.lt_of_lt_of_le (Nat.lt_of_lt_of_le (Nat.lt_of_lt_of_le (Nat.lt_of_lt_of_le (Nat.lt_of_lt_of_le (Nat.lt_of_lt_of_le (Nat.lt_of_lt_of_le (Nat.lt_of_lt_of_le (Nat.lt_of_lt_of_le (Nat.lt_of_lt_of_le (Nat.lt_of_lt_of_le (Nat.lt_of_lt_of_le (Nat.lt_of_lt_of_le (Nat.lt_of_lt_of_le F99.lt K102.1) K105.1) K108.1) K112.1) K116.1) E119.1) K122.1) K125.1) K129.1) K133.1) K137.1) K141.1) K144.1) K148.1) K152.1) (Nat.le_of_eq g155.symm))) nin0)).keep K181 (ninS (Nat.ne_of_lt (Nat.lt_of_lt_of_le (Nat.lt_of_lt_of_le (Nat.lt_of_lt_of_le (Nat.lt_of_lt_of_le (Nat.lt_of_lt_of_le (Nat.lt_of_lt_of_le (Nat.lt_of_lt_of_le (Nat.lt_of_lt_of_le (Nat.lt_of_lt_of_le (Nat.lt_of_lt_of_le (Nat.lt_of_lt_of_le (Nat.lt_of_lt_of_le (Nat.lt_of_lt_of_le (Nat.lt_of_lt_of_le (Nat.lt_of_lt_of_le (Nat.lt_of_lt_of_le F99.lt K102.1) K105.1) K108.1) K112.1) K116.1) E119.1) K122.1) K125.1) K129.1) K133.1) K137.1) K141.1) K144.1) K148.1) K152.1) (Nat.le_of_eq g155.symm))) nin0)).keep K185 (ninS (Nat.ne_of_lt (Nat.lt_of_lt_of_le (Nat.lt_of_lt_of_le (Nat.lt_of_lt_of_le (Nat.lt_of_lt_of_le (Nat.lt_of_lt_of_le (Nat.lt_of_lt_of_le (Nat.lt_of_lt_of_le (Nat.lt_of_lt_of_le (Nat.lt_of_lt_of_le (Nat.lt_of_lt_of_le (Nat.lt_of_lt_of_le (Nat.lt_of_lt_of_le (Nat.lt_of_lt_of_le (Nat.lt_of_lt_of_le (Nat.lt_of_lt_of_le (Nat.lt_of_lt_of_le F99.lt K102.1) K105.1) K108.1) K112.1) K116.1) E119.1) K122.1) K125.1) K129.1) K133.1) K137.1) K141.1) K144.1) K148.1) K152.1) (Nat.le_of_eq g155.symm))) nin0)).keep K189 (ninS (Nat.ne_of_lt (Nat.lt_of_lt_of_le (Nat.lt_of_lt_of_le (Nat.lt_of_lt_of_le (Nat.lt_of_lt_of_le (Nat.lt_of_lt_of_le (Nat.lt_of_lt_of_le (Nat.lt_of_lt_of_le (Nat.lt_of_lt_of_le (Nat.lt_of_lt_of_le (Nat.lt_of_lt_of_le (Nat.lt_of_lt_of_le (Nat.lt_of_lt_of_le (Nat.lt_of_lt_of_le (Nat.lt_of_lt_of_le (Nat.lt_of_lt_of_le (Nat.lt_of_lt_of_le F99.lt K102.1) K105.1) K108.1) K112.1) K116.1) E119.1) K122.1) K125.1) K129.1) K133.1) K137.1) K141.1) K144.1) K148.1) K152.1) (Nat.le_of_eq g155.symm))) nin0)).keep K193 (ninS (Nat.ne_of_lt (Nat.lt_of_lt_of_le (Nat.lt_of_lt_of_le (Nat.lt_of_lt_of_le (Nat.lt_of_lt_of_le (Nat.lt_of_lt_of_le (Nat.lt_of_lt_of_le (Nat.lt_of_lt_of_le (Nat.lt_of_lt_of_le (Nat.lt_of_lt_of_le (Nat.lt_of_lt_of_le (Nat.lt_of_lt_of_le (Nat.lt_of_lt_of_le (Nat.lt_of_lt_of_le (Nat.lt_of_lt_of_le (Nat.lt_of_lt_of_le (Nat.lt_of_lt_of_le F99.lt K102.1) K105.1) K108.1) K112.1) K116.1) E119.1) K122.1) K125.1) K129.1) K133.1) K137.1) K141.1) K144.1) K148.1) K152.1) (Nat.le_of_eq g155.symm))) nin0)).keep K197 (ninS (Nat.ne_of_lt (Nat.lt_of_lt_of_le (Nat.lt_of_lt_of_le (Nat.lt_of_lt_of_le (Nat.lt_of_lt_of_le (Nat.lt_of_lt_of_le (Nat.lt_of_lt_of_le (Nat.lt_of_lt_of_le (Nat.lt_of_lt_of_le (Nat.lt_of_lt_of_le (Nat.lt_of_lt_of_le (Nat.lt_of_lt_of_le (Nat.lt_of_lt_of_le (Nat.lt_of_lt_of_le (Nat.lt_of_lt_of_le (Nat.lt_of_lt_of_le (Nat.lt_of_lt_of_le F99.lt K102.1) K105.1) K108.1) K112.1) K116.1) E119.1) K122.1) K125.1) K129.1) K133.1) K137.1) K141.1) K144.1) K148.1) K152.1) (Nat.le_of_eq g155.symm))) nin0)).keep K201 (ninS (Nat.ne_of_lt (Nat.lt_of_lt_of_le (Nat.lt_of_lt_of_le (Nat.lt_of_lt_of_le (Nat.lt_of_lt_of_le (Nat.lt_of_lt_of_le (Nat.lt_of_lt_of_le (Nat.lt_of_lt_of_le (Nat.lt_of_lt_of_le (Nat.lt_of_lt_of_le (Nat.lt_of_lt_of_le (Nat.lt_of_lt_of_le (Nat.lt_of_lt_of_le (Nat.lt_of_lt_of_le (Nat.lt_of_lt_of_le (Nat.lt_of_lt_of_le (Nat.lt_of_lt_of_le F99.lt K102.1) K105.1) K108.1) K112.1) K116.1) E119.1) K122.1) K125.1) K129.1) K133.1) K137.1) K141.1) K144.1) K148.1) K152.1) (Nat.le_of_eq g155.symm))) nin0)).keep K204 (ninS (Nat.ne_of_lt (Nat.lt_of_lt_of_le (Nat.lt_of_lt_of_le (Nat.lt_of_lt_of_le (Nat.lt_of_lt_of_le (Nat.lt_of_lt_of_le (Nat.lt_of_lt_of_le (Nat.lt_of_lt_of_le (Nat.lt_of_lt_of_le (Nat.lt_of_lt_of_le (Nat.lt_of_lt_of_le (Nat.lt_of_lt_of_le (Nat.lt_of_lt_of_le (Nat.lt_of_lt_of_le (Nat.lt_of_lt_of_le (Nat.lt_of_lt_of_le (Nat.lt_of_lt_of_le F99.lt K102.1) K105.1) K108.1) K112.1) K116.1) E119.1) K122.1) K125.1) K129.1) K133.1) K137.1) K141.1) K144.1) K148.1) K152.1) (Nat.le_of_eq g155.symm))) nin0)).keep K208 (ninS (Nat.ne_of_lt (Nat.lt_of_lt_of_le (Nat.lt_of_lt_of_le (Nat.lt_of_lt_of_le (Nat.lt_of_lt_of_le (Nat.lt_of_lt_of_le (Nat.lt_of_lt_of_le (Nat.lt_of_lt_of_le (Nat.lt_of_lt_of_le (Nat.lt_of_lt_of_le (Nat.lt_of_lt_of_le (Nat.lt_of_lt_of_le (Nat.lt_of_lt_of_le (Nat.lt_of_lt_of_le (Nat.lt_of_lt_of_le (Nat.lt_of_lt_of_le (Nat.lt_of_lt_of_le F99.lt K102.1) K105.1) K108.1) K112.1) K116.1) E119.1) K122.1) K125.1) K129.1) K133.1) K137.1) K141.1) K144.1) K148.1) K152.1) (Nat.le_of_eq g155.symm))) nin0)).keep K212 (ninS (Nat.ne_of_lt (Nat.lt_of_lt_of_le (Nat.lt_of_lt_of_le (Nat.lt_of_lt_of_le (Nat.lt_of_lt_of_le (Nat.lt_of_lt_of_le (Nat.lt_of_lt_of_le (Nat.lt_of_lt_of_le (Nat.lt_of_lt_of_le (Nat.lt_of_lt_of_le (Nat.lt_of_lt_of_le (Nat.lt_of_lt_of_le (Nat.lt_of_lt_of_le (Nat.lt_of_lt_of_le (Nat.lt_of_lt_of_le (Nat.lt_of_lt_of_le (Nat.lt_of_lt_of_le F99.lt K102.1) K105.1) K108.1) K112.1) K116.1) E119.1) K122.1) K125.1) K129.1) K133.1) K137.1) K141.1) K144.1) K148.1) K152.1) (Nat.le_of_eq g155.symm))) nin0)).ext E224)
    refine f_callI A224 (a := a224) at_456 (pc' := 459) rfl rfl (wd hw 23 rfl) (wd hw 24 rfl) (wd hw 25 rfl) (by decide) pd4 [(.ref a99)] [(.ref a224)] rfl rfl rfl 1 (Nat.le_of_eq rfl) (payNew (W := 1) A224 hw (wd hw 21 rfl) (cs := [c3, c2, (46 : Int32), c1, c0]) 5 z224 X224 (show Fld Z h224 a224 "java/lang/String" "value" "[B" .null from D224 (Or.inr (wd hw 48 rfl)) (ty := (.array .byte)) (by decide)) (show Fld Z h224 a224 "java/lang/String" "coder" "B" (.int (0 : Int32)) from D224 (Or.inr (wd hw 46 rfl)) (ty := .byte) (by decide)) c226 O2 P5 rfl rfl (by decide) (by decide) (lc (lat_of (chE e3)) (lc (lat_of (chE e2)) (lc (by decide) (lc (lat_of (chE e1)) (lc (lat_of (chE e0)) ln))))) (by decide) (by decide)) (kc := 1) (ks := 5) (by decide) (by decide) (allS z224 all0) (fun _ => (sfS s224 sf0)) fun v227 T227 h227 L227 A227 K227 q227 => ?_
    have Q228 : Keep h0 h227 [] := Q225.trans K227 (allS (Or.inr y224) all0)
    obtain ⟨rfl, t227, tz227, tg227, tn227, G227⟩ := q227
    show Wp pG e below _ T227 (mkF m 459 _ [(.ref a224)])
    refine f_astore A227 at_459 (pc' := 461) rfl rfl (L' := #[.val (.long a), .second, .val (.int shape), .val (.long v), .second, .val (.int (1 : Int32)), .val (.ref a83), .val (.ref a99), .val (.ref a119), .val (.ref a155), .val (.ref a99), .val (.long (v % (10000 : Int64))), .second, .val (.ref a224)]) rfl ?_
    refine f_ldcO A227 at_461 (pc' := 463) rfl (wd hw 49 rfl) (strA hw) hEL (n := 24) (by decide) (by decide) (by decide) (by decide) fun a229 vm229 T229 h229 A229 E229 C229 Li229 => ?_
    have Q230 : Keep h0 h229 [] := Q228.ext E229
    refine f_aload A229 at_463 (pc' := 465) rfl rfl rfl ?_
    have c231 := (G227.ext E229)
    refine f_callS A229 at_465 (pc' := 468) rfl (wd hw 52 rfl) (wd hw 53 rfl) (wd hw 54 rfl) (wd hw 55 rfl) (by decide) pd5 [(.ref a229), (.ref a224)] [] rfl rfl rfl 0 (Nat.le_of_eq rfl) (CN.pay (W := 0) A229 (m_nn5 l Z a0 hw a229 a224 t227 V c3 c2 c1 c0 zc O2 P5 fm O4 rG3 h229 n0 A229.old c231 (lc (lat_of (chE e3)) (lc (lat_of (chE e2)) (lc (by decide) (lc (lat_of (chE e1)) (lc (lat_of (chE e0)) ln))))) e3 e2 e1 e0) (wd hw 55 rfl) (wd hw 54 rfl) (by decide) (by decide)) (kc := 0) (ks := 0) (by decide) (by decide) all0 (fun _ => sf0) fun v232 T232 h232 L232 A232 K232 q232 => ?_
    obtain ⟨r232, rfl, hr232, hh232⟩ := q232
    obtain rfl := hh232.symm
    show Wp pG e below _ T232 (mkF m 468 _ [(.long r232)])
    refine f_lload A232 at_468 (pc' := 470) rfl rfl ?_
    refine f_lcmp A232 at_470 (pc' := 471) rfl (lcmpW r232 (v % (10000 : Int64))) rfl ?_
    refine f_ifN A232 at_471 ((if0 _ _).trans (teq ((lw_eq _ _).mpr (Int64.toInt_inj.mp (by rw [hr232, pos_rem hv0.1 (d := 10000) rfl, hV])))).2) (pc' := 474) rfl ?_
    refine f_iconst A232 at_474 (pc' := 475) rfl 1 rfl ?_
    refine f_goto A232 at_475 (pc' := 479) (by decide) (by decide) ?_
    exact f_retBW A232 hEL hlk hret at_479 (by decide) (1 : Int32) (by decide) (by decide) (by decide) Q230 rfl
  · refine f_ifY A212 at_386 ((if0 _ _).trans (feq (by decide : ¬ (2 : Int32) = (0 : Int32))).2) (pc' := 403) (by decide) (by decide) ?_
    refine f_iload A212 at_403 (pc' := 405) rfl rfl ?_
    refine f_iconst A212 at_405 (pc' := 406) rfl 1 rfl ?_
    refine f_icY A212 at_406 (feq (by decide : ¬ (2 : Int32) = (1 : Int32))).2 (pc' := 423) (by decide) (by decide) ?_
    refine f_iload A212 at_423 (pc' := 425) rfl rfl ?_
    refine f_iconst A212 at_425 (pc' := 426) rfl 2 rfl ?_
    refine f_icN A212 at_426 (teq (by decide : (2 : Int32) = (2 : Int32))).2 (pc' := 429) rfl ?_
    refine f_aload A212 at_429 (pc' := 431) rfl rfl rfl ?_
    refine f_astore A212 at_431 (pc' := 433) rfl rfl (L' := #[.val (.long a), .second, .val (.int shape), .val (.long v), .second, .val (.int (2 : Int32)), .val (.ref a83), .val (.ref a99), .val (.ref a119), .val (.ref a155), .val (.ref a119), .unset, .unset, .unset]) rfl ?_
    refine f_lloadN A212 at_433 (pc' := 434) rfl rfl ?_
    refine f_ldc2J A212 at_434 (pc' := 437) rfl (wd hw 19 rfl) ?_
    refine f_lrem A212 at_437 (pc' := 438) rfl (by decide) (v % (100000000 : Int64)) rfl ?_
    refine f_lstore A212 at_438 (pc' := 440) rfl (L' := #[.val (.long a), .second, .val (.int shape), .val (.long v), .second, .val (.int (2 : Int32)), .val (.ref a83), .val (.ref a99), .val (.ref a119), .val (.ref a155), .val (.ref a119), .val (.long (v % (100000000 : Int64))), .second, .unset]) rfl ?_
    refine f_goto A212 at_440 (pc' := 450) (by decide) (by decide) ?_
    refine f_new A212 at_450 (pc' := 453) rfl (wd hw 20 rfl) (wd hw 21 rfl) (wd hw 22 rfl) (by decide) (by decide) fun a233 T233 h233 g233 A233 E233 X233 D233 => ?_
    have z233 : n0 ≤ a233 := Nat.le_trans A212.sz (Nat.le_of_eq g233.symm)
    have y233 : h0.size ≤ a233 := Nat.le_trans Q214.1 (Nat.le_of_eq g233.symm)
    have Q234 : Keep h0 h233 [] := Q214.ext E233
    have s233 := Safe.ext E233 (A212.ch rfl).1 (Safe.new (Nat.le_of_eq g233.symm))
    refine f_dup A233 at_453 (pc' := 454) rfl rfl ?_
    refine f_aload A233 at_454 (pc' := 456) rfl rfl rfl ?_
    have c235 := (((((((((((((((((V152.ext E155).keep K158 (ninS (Nat.ne_of_lt (Nat.lt_of_lt_of_le (Nat.lt_of_lt_of_le (Nat.lt_of_lt_of_le (Nat.lt_of_lt_of_le (Nat.lt_of_lt_of_le (Nat.lt_of_lt_of_le (Nat.lt_of_lt_of_le (Nat.lt_of_lt_of_le (Nat.lt_of_lt_of_le (Nat.lt_of_lt_of_le F119.lt K122.1) K125.1) K129.1) K133.1) K137.1) K141.1) K144.1) K148.1) K152.1) (Nat.le_of_eq g155.symm))) nin0)).keep K161 (ninS (Nat.ne_of_lt (Nat.lt_of_lt_of_le (Nat.lt_of_lt_of_le (Nat.lt_of_lt_of_le (Nat.lt_of_lt_of_le (Nat.lt_of_lt_of_le (Nat.lt_of_lt_of_le (Nat.lt_of_lt_of_le (Nat.lt_of_lt_of_le (Nat.lt_of_lt_of_le (Nat.lt_of_lt_of_le F119.lt K122.1) K125.1) K129.1) K133.1) K137.1) K141.1) K144.1) K148.1) K152.1) (Nat.le_of_eq g155.symm))) nin0)).keep K165 (ninS (Nat.ne_of_lt (Nat.lt_of_lt_of_le (Nat.lt_of_lt_of_le (Nat.lt_of_lt_of_le (Nat.lt_of_lt_of_le (Nat.lt_of_lt_of_le (Nat.lt_of_lt_of_le (Nat.lt_of_lt_of_le (Nat.lt_of_lt_of_le (Nat.lt_of_lt_of_le (Nat.lt_of_lt_of_le F119.lt K122.1) K125.1) K129.1) K133.1) K137.1) K141.1) K144.1) K148.1) K152.1) (Nat.le_of_eq g155.symm))) nin0)).keep K169 (ninS (Nat.ne_of_lt (Nat.lt_of_lt_of_le (Nat.lt_of_lt_of_le (Nat.lt_of_lt_of_le (Nat.lt_of_lt_of_le (Nat.lt_of_lt_of_le (Nat.lt_of_lt_of_le (Nat.lt_of_lt_of_le (Nat.lt_of_lt_of_le (Nat.lt_of_lt_of_le (Nat.lt_of_lt_of_le F119.lt K122.1) K125.1) K129.1) K133.1) K137.1) K141.1) K144.1) K148.1) K152.1) (Nat.le_of_eq g155.symm))) nin0)).keep K173 (ninS (Nat.ne_of_lt (Nat.lt_of_lt_of_le (Nat.lt_of_lt_of_le (Nat.lt_of_lt_of_le (Nat.lt_of_lt_of_le (Nat.lt_of_lt_of_le (Nat.lt_of_lt_of_le (Nat.lt_of_lt_of_le (Nat.lt_of_lt_of_le (Nat.lt_of_lt_of_le (Nat.lt_of_lt_of_le F119.lt K122.1) K125.1) K129.1) K133.1) K137.1) K141.1) K144.1) K148.1) K152.1) (Nat.le_of_eq g155.symm))) nin0)).keep K177 (ninS (Nat.ne_of_lt (Nat.lt_of_lt_of_le (Nat.lt_of_lt_of_le (Nat.lt_of_lt_of_le (Nat.lt_of_lt_of_le (Nat.lt_of_lt_of_le (Nat.lt_of_lt_of_le (Nat.lt_of_lt_of_le (Nat.lt_of_lt_of_le (Nat.lt_of_lt_of_le (Nat.lt_of_lt_of_le F119.lt K122.1) K125.1) K129.1) K133.1) K137.1) K141.1) K144.1) K148.1) K152.1) (Nat.le_of_eq g155.symm))) nin0)).keep K181 (ninS (Nat.ne_of_lt (Nat.lt_of_lt_of_le (Nat.lt_of_lt_of_le (Nat.lt_of_lt_of_le (Nat.lt_of_lt_of_le (Nat.lt_of_lt_of_le (Nat.lt_of_lt_of_le (Nat.lt_of_lt_of_le (Nat.lt_of_lt_of_le (Nat.lt_of_lt_of_le (Nat.lt_of_lt_of_le F119.lt K122.1) K125.1) K129.1) K133.1) K137.1) K141.1) K144.1) K148.1) K152.1) (Nat.le_of_eq g155.symm))) nin0)).keep K185 (ninS (Nat.ne_of_lt (Nat.lt_of_lt_of_le (Nat.lt_of_lt_of_le (Nat.lt_of_lt_of_le (Nat.lt_of_lt_of_le (Nat.lt_of_lt_of_le (Nat.lt_of_lt_of_le (Nat.lt_of_lt_of_le (Nat.lt_of_lt_of_le (Nat.lt_of_lt_of_le (Nat.lt_of_lt_of_le F119.lt K122.1) K125.1) K129.1) K133.1) K137.1) K141.1) K144.1) K148.1) K152.1) (Nat.le_of_eq g155.symm))) nin0)).keep K189 (ninS (Nat.ne_of_lt (Nat.lt_of_lt_of_le (Nat.lt_of_lt_of_le (Nat.lt_of_lt_of_le (Nat.lt_of_lt_of_le (Nat.lt_of_lt_of_le (Nat.lt_of_lt_of_le (Nat.lt_of_lt_of_le (Nat.lt_of_lt_of_le (Nat.lt_of_lt_of_le (Nat.lt_of_lt_of_le F119.lt K122.1) K125.1) K129.1) K133.1) K137.1) K141.1) K144.1) K148.1) K152.1) (Nat.le_of_eq g155.symm))) nin0)).keep K193 (ninS (Nat.ne_of_lt (Nat.lt_of_lt_of_le (Nat.lt_of_lt_of_le (Nat.lt_of_lt_of_le (Nat.lt_of_lt_of_le (Nat.lt_of_lt_of_le (Nat.lt_of_lt_of_le (Nat.lt_of_lt_of_le (Nat.lt_of_lt_of_le (Nat.lt_of_lt_of_le (Nat.lt_of_lt_of_le F119.lt K122.1) K125.1) K129.1) K133.1) K137.1) K141.1) K144.1) K148.1) K152.1) (Nat.le_of_eq g155.symm))) nin0)).keep K197 (ninS (Nat.ne_of_lt (Nat.lt_of_lt_of_le (Nat.lt_of_lt_of_le (Nat.lt_of_lt_of_le (Nat.lt_of_lt_of_le (Nat.lt_of_lt_of_le (Nat.lt_of_lt_of_le (Nat.lt_of_lt_of_le (Nat.lt_of_lt_of_le (Nat.lt_of_lt_of_le (Nat.lt_of_lt_of_le F119.lt K122.1) K125.1) K129.1) K133.1) K137.1) K141.1) K144.1) K148.1) K152.1) (Nat.le_of_eq g155.symm))) nin0)).keep K201 (ninS (Nat.ne_of_lt (Nat.lt_of_lt_of_le (Nat.lt_of_lt_of_le (Nat.lt_of_lt_of_le (Nat.lt_of_lt_of_le (Nat.lt_of_lt_of_le (Nat.lt_of_lt_of_le (Nat.lt_of_lt_of_le (Nat.lt_of_lt_of_le (Nat.lt_of_lt_of_le (Nat.lt_of_lt_of_le F119.lt K122.1) K125.1) K129.1) K133.1) K137.1) K141.1) K144.1) K148.1) K152.1) (Nat.le_of_eq g155.symm))) nin0)).keep K204 (ninS (Nat.ne_of_lt (Nat.lt_of_lt_of_le (Nat.lt_of_lt_of_le (Nat.lt_of_lt_of_le (Nat.lt_of_lt_of_le (Nat.lt_of_lt_of_le (Nat.lt_of_lt_of_le (Nat.lt_of_lt_of_le (Nat.lt_of_lt_of_le (Nat.lt_of_lt_of_le (Nat.lt_of_lt_of_le F119.lt K122.1) K125.1) K129.1) K133.1) K137.1) K141.1) K144.1) K148.1) K152.1) (Nat.le_of_eq g155.symm))) nin0)).keep K208 (ninS (Nat.ne_of_lt (Nat.lt_of_lt_of_le (Nat.lt_of_lt_of_le (Nat.lt_of_lt_of_le (Nat.lt_of_lt_of_le (Nat.lt_of_lt_of_le (Nat.lt_of_lt_of_le (Nat.lt_of_lt_of_le (Nat.lt_of_lt_of_le (Nat.lt_of_lt_of_le (Nat.lt_of_lt_of_le F119.lt K122.1) K125.1) K129.1) K133.1) K137.1) K141.1) K144.1) K148.1) K152.1) (Nat.le_of_eq g155.symm))) nin0)).keep K212 (ninS (Nat.ne_of_lt (Nat.lt_of_lt_of_le (Nat.lt_of_lt_of_le (Nat.lt_of_lt_of_le (Nat.lt_of_lt_of_le (Nat.lt_of_lt_of_le (Nat.lt_of_lt_of_le (Nat.lt_of_lt_of_le (Nat.lt_of_lt_of_le (Nat.lt_of_lt_of_le (Nat.lt_of_lt_of_le F119.lt K122.1) K125.1) K129.1) K133.1) K137.1) K141.1) K144.1) K148.1) K152.1) (Nat.le_of_eq g155.symm))) nin0)).ext E233)
    refine f_callI A233 (a := a233) at_456 (pc' := 459) rfl rfl (wd hw 23 rfl) (wd hw 24 rfl) (wd hw 25 rfl) (by decide) pd4 [(.ref a119)] [(.ref a233)] rfl rfl rfl 1 (Nat.le_of_eq rfl) (payNew (W := 1) A233 hw (wd hw 21 rfl) (cs := [c7, c6, c5, c4, c3, c2, (46 : Int32), c1, c0]) 9 z233 X233 (show Fld Z h233 a233 "java/lang/String" "value" "[B" .null from D233 (Or.inr (wd hw 48 rfl)) (ty := (.array .byte)) (by decide)) (show Fld Z h233 a233 "java/lang/String" "coder" "B" (.int (0 : Int32)) from D233 (Or.inr (wd hw 46 rfl)) (ty := .byte) (by decide)) c235 O2 P5 rfl rfl (by decide) (by decide) (lc (lat_of (chE e7)) (lc (lat_of (chE e6)) (lc (lat_of (chE e5)) (lc (lat_of (chE e4)) (lc (lat_of (chE e3)) (lc (lat_of (chE e2)) (lc (by decide) (lc (lat_of (chE e1)) (lc (lat_of (chE e0)) ln))))))))) (by decide) (by decide)) (kc := 1) (ks := 9) (by decide) (by decide) (allS z233 all0) (fun _ => (sfS s233 sf0)) fun v236 T236 h236 L236 A236 K236 q236 => ?_
    have Q237 : Keep h0 h236 [] := Q234.trans K236 (allS (Or.inr y233) all0)
    obtain ⟨rfl, t236, tz236, tg236, tn236, G236⟩ := q236
    show Wp pG e below _ T236 (mkF m 459 _ [(.ref a233)])
    refine f_astore A236 at_459 (pc' := 461) rfl rfl (L' := #[.val (.long a), .second, .val (.int shape), .val (.long v), .second, .val (.int (2 : Int32)), .val (.ref a83), .val (.ref a99), .val (.ref a119), .val (.ref a155), .val (.ref a119), .val (.long (v % (100000000 : Int64))), .second, .val (.ref a233)]) rfl ?_
    refine f_ldcO A236 at_461 (pc' := 463) rfl (wd hw 49 rfl) (strA hw) hEL (n := 24) (by decide) (by decide) (by decide) (by decide) fun a238 vm238 T238 h238 A238 E238 C238 Li238 => ?_
    have Q239 : Keep h0 h238 [] := Q237.ext E238
    refine f_aload A238 at_463 (pc' := 465) rfl rfl rfl ?_
    have c240 := (G236.ext E238)
    refine f_callS A238 at_465 (pc' := 468) rfl (wd hw 52 rfl) (wd hw 53 rfl) (wd hw 54 rfl) (wd hw 55 rfl) (by decide) pd5 [(.ref a238), (.ref a233)] [] rfl rfl rfl 0 (Nat.le_of_eq rfl) (CN.pay (W := 0) A238 (m_nn9 l Z a0 hw a238 a233 t236 V c7 c6 c5 c4 c3 c2 c1 c0 zc O2 P5 fm O4 rG3 h238 n0 A238.old c240 (lc (lat_of (chE e7)) (lc (lat_of (chE e6)) (lc (lat_of (chE e5)) (lc (lat_of (chE e4)) (lc (lat_of (chE e3)) (lc (lat_of (chE e2)) (lc (by decide) (lc (lat_of (chE e1)) (lc (lat_of (chE e0)) ln))))))))) e7 e6 e5 e4 e3 e2 e1 e0) (wd hw 55 rfl) (wd hw 54 rfl) (by decide) (by decide)) (kc := 0) (ks := 0) (by decide) (by decide) all0 (fun _ => sf0) fun v241 T241 h241 L241 A241 K241 q241 => ?_
    obtain ⟨r241, rfl, hr241, hh241⟩ := q241
    obtain rfl := hh241.symm
    show Wp pG e below _ T241 (mkF m 468 _ [(.long r241)])
    refine f_lload A241 at_468 (pc' := 470) rfl rfl ?_
    refine f_lcmp A241 at_470 (pc' := 471) rfl (lcmpW r241 (v % (100000000 : Int64))) rfl ?_
    refine f_ifN A241 at_471 ((if0 _ _).trans (teq ((lw_eq _ _).mpr (Int64.toInt_inj.mp (by rw [hr241, pos_rem hv0.1 (d := 100000000) rfl, hV])))).2) (pc' := 474) rfl ?_
    refine f_iconst A241 at_474 (pc' := 475) rfl 1 rfl ?_
    refine f_goto A241 at_475 (pc' := 479) (by decide) (by decide) ?_
    exact f_retBW A241 hEL hlk hret at_479 (by decide) (1 : Int32) (by decide) (by decide) (by decide) Q239 rfl
  · refine f_ifY A212 at_386 ((if0 _ _).trans (feq (by decide : ¬ (3 : Int32) = (0 : Int32))).2) (pc' := 403) (by decide) (by decide) ?_
    refine f_iload A212 at_403 (pc' := 405) rfl rfl ?_
    refine f_iconst A212 at_405 (pc' := 406) rfl 1 rfl ?_
    refine f_icY A212 at_406 (feq (by decide : ¬ (3 : Int32) = (1 : Int32))).2 (pc' := 423) (by decide) (by decide) ?_
    refine f_iload A212 at_423 (pc' := 425) rfl rfl ?_
    refine f_iconst A212 at_425 (pc' := 426) rfl 2 rfl ?_
    refine f_icY A212 at_426 (feq (by decide : ¬ (3 : Int32) = (2 : Int32))).2 (pc' := 443) (by decide) (by decide) ?_
    refine f_aload A212 at_443 (pc' := 445) rfl rfl rfl ?_
    refine f_astore A212 at_445 (pc' := 447) rfl rfl (L' := #[.val (.long a), .second, .val (.int shape), .val (.long v), .second, .val (.int (3 : Int32)), .val (.ref a83), .val (.ref a99), .val (.ref a119), .val (.ref a155), .val (.ref a155), .unset, .unset, .unset]) rfl ?_
    refine f_lloadN A212 at_447 (pc' := 448) rfl rfl ?_
    refine f_lstore A212 at_448 (pc' := 450) rfl (L' := #[.val (.long a), .second, .val (.int shape), .val (.long v), .second, .val (.int (3 : Int32)), .val (.ref a83), .val (.ref a99), .val (.ref a119), .val (.ref a155), .val (.ref a155), .val (.long v), .second, .unset]) rfl ?_
    refine f_new A212 at_450 (pc' := 453) rfl (wd hw 20 rfl) (wd hw 21 rfl) (wd hw 22 rfl) (by decide) (by decide) fun a242 T242 h242 g242 A242 E242 X242 D242 => ?_
    have z242 : n0 ≤ a242 := Nat.le_trans A212.sz (Nat.le_of_eq g242.symm)
    have y242 : h0.size ≤ a242 := Nat.le_trans Q214.1 (Nat.le_of_eq g242.symm)
    have Q243 : Keep h0 h242 [] := Q214.ext E242
    have s242 := Safe.ext E242 (A212.ch rfl).1 (Safe.new (Nat.le_of_eq g242.symm))
    refine f_dup A242 at_453 (pc' := 454) rfl rfl ?_
    refine f_aload A242 at_454 (pc' := 456) rfl rfl rfl ?_
    have c244 := (V212.ext E242)
    refine f_callI A242 (a := a242) at_456 (pc' := 459) rfl rfl (wd hw 23 rfl) (wd hw 24 rfl) (wd hw 25 rfl) (by decide) pd4 [(.ref a155)] [(.ref a242)] rfl rfl rfl 1 (Nat.le_of_eq rfl) (payNew (W := 1) A242 hw (wd hw 21 rfl) (cs := [c13, c12, c11, c10, c9, c8, c7, c6, c5, c4, c3, c2, (46 : Int32), c1, c0]) 15 z242 X242 (show Fld Z h242 a242 "java/lang/String" "value" "[B" .null from D242 (Or.inr (wd hw 48 rfl)) (ty := (.array .byte)) (by decide)) (show Fld Z h242 a242 "java/lang/String" "coder" "B" (.int (0 : Int32)) from D242 (Or.inr (wd hw 46 rfl)) (ty := .byte) (by decide)) c244 O2 P5 rfl rfl (by decide) (by decide) (lc (lat_of (chE e13)) (lc (lat_of (chE e12)) (lc (lat_of (chE e11)) (lc (lat_of (chE e10)) (lc (lat_of (chE e9)) (lc (lat_of (chE e8)) (lc (lat_of (chE e7)) (lc (lat_of (chE e6)) (lc (lat_of (chE e5)) (lc (lat_of (chE e4)) (lc (lat_of (chE e3)) (lc (lat_of (chE e2)) (lc (by decide) (lc (lat_of (chE e1)) (lc (lat_of (chE e0)) ln))))))))))))))) (by decide) (by decide)) (kc := 1) (ks := 15) (by decide) (by decide) (allS z242 all0) (fun _ => (sfS s242 sf0)) fun v245 T245 h245 L245 A245 K245 q245 => ?_
    have Q246 : Keep h0 h245 [] := Q243.trans K245 (allS (Or.inr y242) all0)
    obtain ⟨rfl, t245, tz245, tg245, tn245, G245⟩ := q245
    show Wp pG e below _ T245 (mkF m 459 _ [(.ref a242)])
    refine f_astore A245 at_459 (pc' := 461) rfl rfl (L' := #[.val (.long a), .second, .val (.int shape), .val (.long v), .second, .val (.int (3 : Int32)), .val (.ref a83), .val (.ref a99), .val (.ref a119), .val (.ref a155), .val (.ref a155), .val (.long v), .second, .val (.ref a242)]) rfl ?_
    refine f_ldcO A245 at_461 (pc' := 463) rfl (wd hw 49 rfl) (strA hw) hEL (n := 24) (by decide) (by decide) (by decide) (by decide) fun a247 vm247 T247 h247 A247 E247 C247 Li247 => ?_
    have Q248 : Keep h0 h247 [] := Q246.ext E247
    refine f_aload A247 at_463 (pc' := 465) rfl rfl rfl ?_
    have c249 := (G245.ext E247)
    refine f_callS A247 at_465 (pc' := 468) rfl (wd hw 52 rfl) (wd hw 53 rfl) (wd hw 54 rfl) (wd hw 55 rfl) (by decide) pd5 [(.ref a247), (.ref a242)] [] rfl rfl rfl 0 (Nat.le_of_eq rfl) (CN.pay (W := 0) A247 (m_nn15 l Z a0 hw a247 a242 t245 V c13 c12 c11 c10 c9 c8 c7 c6 c5 c4 c3 c2 c1 c0 zc O2 P5 fm O4 rG3 h247 n0 A247.old c249 (lc (lat_of (chE e13)) (lc (lat_of (chE e12)) (lc (lat_of (chE e11)) (lc (lat_of (chE e10)) (lc (lat_of (chE e9)) (lc (lat_of (chE e8)) (lc (lat_of (chE e7)) (lc (lat_of (chE e6)) (lc (lat_of (chE e5)) (lc (lat_of (chE e4)) (lc (lat_of (chE e3)) (lc (lat_of (chE e2)) (lc (by decide) (lc (lat_of (chE e1)) (lc (lat_of (chE e0)) ln))))))))))))))) e13 e12 e11 e10 e9 e8 e7 e6 e5 e4 e3 e2 e1 e0) (wd hw 55 rfl) (wd hw 54 rfl) (by decide) (by decide)) (kc := 0) (ks := 0) (by decide) (by decide) all0 (fun _ => sf0) fun v250 T250 h250 L250 A250 K250 q250 => ?_
    obtain ⟨r250, rfl, hr250, hh250⟩ := q250
    obtain rfl := hh250.symm
    show Wp pG e below _ T250 (mkF m 468 _ [(.long r250)])
    refine f_lload A250 at_468 (pc' := 470) rfl rfl ?_
    refine f_lcmp A250 at_470 (pc' := 471) rfl (lcmpW r250 v) rfl ?_
    refine f_ifN A250 at_471 ((if0 _ _).trans (teq ((lw_eq _ _).mpr (Int64.toInt_inj.mp (by rw [hr250, hV]; exact Int.emod_eq_of_lt (hV ▸ hv0.1) (hV ▸ hv0.2))))).2) (pc' := 474) rfl ?_
    refine f_iconst A250 at_474 (pc' := 475) rfl 1 rfl ?_
    refine f_goto A250 at_475 (pc' := 479) (by decide) (by decide) ?_
    exact f_retBW A250 hEL hlk hret at_479 (by decide) (1 : Int32) (by decide) (by decide) (by decide) Q248 rfl
set_option maxRecDepth 65536 in
set_option maxHeartbeats 40000000 in
theorem comes_1 {Post : Tables → Env → Array Value → State → Outcome → State → Prop} (hpost : ∀ tb e args s v u, (limb_1_1.after args s (.returned v) u = true ∧ limb_1_2.after args s (.returned v) u = true ∧ True) → ReturnedEndW s (.returned v) u (Jvm.fieldLocs frame_1_writes args s ++ Jvm.arrayLocs frame_1_arrays args s ++ Jvm.staticLocs frame_1_statics s) 24 1216 → Post tb e args s (.returned v) u) :
    ArmFor flags0 classFile x code maxLocals ret World_1 tables_1 room_1 Calls_1 rest_1 Pre_1 Post := by
  intro l hfl _ _ p e ha hc hk s m args below hf hA hF happ hP
  obtain ⟨hcalls, hrest, hpre⟩ := hP
  obtain ⟨-, -, -, hnamed, -, -, -, hat⟩ := (Spec.applies_iff hf).mp happ
  obtain ⟨hg, hn⟩ := and_e (Cond.before_iff.mp (show (Jvm.Cond.and given_1 narrow_1).before args s = true from hpre))
  obtain ⟨gc, g0⟩ := and_e hg
  obtain ⟨b0, g1⟩ := and_e g0
  obtain ⟨w0, w1, rfl⟩ : ∃ w0 w1 : Value, args = #[w0, w1] := by
    have hs : args.size = 2 := by simpa [Cond.value, given_1] using gc
    obtain ⟨L⟩ := args
    match L, hs with
    | [w0, w1], _ => exact ⟨w0, w1, rfl⟩
  have hw := fun d (hd : d ∈ tables_1) => atoms_spec (ws := Jvm.Cond.code x code maxLocals ret :: tables_1) hat d (List.mem_cons_of_mem _ hd)
  obtain ⟨hsets, hown0⟩ := atoms_of _ (rest_1_c_eq ▸ (show rest_1_c.before _ s = true from hrest))
  obtain ⟨i0, ei0⟩ := isL_v b0
  obtain rfl : w0 = (.long i0) := Option.some.inj ei0
  obtain ⟨i1, ei1⟩ := is_v g1
  obtain rfl : w1 = (.int i1) := Option.some.inj ei1
  obtain ⟨zc, ezc⟩ := is_v (Cond.before_iff.mp (hsets _ (List.mem_of_getElem? (i := 1) rfl)))
  have O2 : Sta s s.heap "java/lang/String" "COMPACT_STRINGS" "Z" (.int zc) := Sta.start ezc (Or.inl (hsets _ (List.mem_of_getElem? (i := 0) rfl)))
  have P5 : ¬ zc = 0 := gotF (Cond.eq_ints ezc (Term.int_eval (0))) (not_v (Cond.before_iff.mp (hsets _ (List.mem_of_getElem? (i := 2) rfl))))
  obtain ⟨fm, efm, rG3⟩ := isR_v (Cond.before_iff.mp (hsets _ (List.mem_of_getElem? (i := 8) rfl)))
  have O4 : Sta s s.heap "jdk/internal/util/Preconditions" "SIOOBE_FORMATTER" "Ljava/util/function/BiFunction;" fm := Sta.start efm (Or.inl (hsets _ (List.mem_of_getElem? (i := 7) rfl)))
  have hEL : EW s #[.long i0, .int i1] ELs := EW.nil
  have hCH : CHv s ELs s.vm s.heap := fun _ hp => nomatch hp
  obtain ⟨n, o, h1, h2, h3, v, L, rfl, ⟨N, -, hv⟩, hC, hq⟩ := m_law l s _ hw tables_1 i0 i1 zc O2 P5 fm O4 rG3 s.heap s.heap.size (Old.start s) hEL  p e ha hc hk s m _ below hf ((Spec.applies_iff_loose hf).mp happ).1 ⟨rfl, State.Warmed39.refl s, rfl, hCH, fun _ q => nomatch q⟩ trivial
  obtain rfl := hv
  refine ⟨n, _, h1, h2, h3, hpost _ _ _ _ _ _ ⟨Cond.after_iff.mpr rfl, Cond.after_iff.mpr (eq_i res_at (Term.int_eval (1)) rfl), trivial⟩ ⟨hq.1, hq.2.1, hq.2.2.1, (hq.2.2.2.sift fun y hy => Or.inr (N y hy)).mono (by decide) (by decide)⟩⟩
theorem main_1_1 : Claimed_1_1 := comes_1 fun _ _ _ _ _ _ h hF => ⟨h.1, hF⟩
theorem main_1_2 : Claimed_1_2 := comes_1 fun _ _ _ _ _ _ h hF => ⟨h.2.1, hF⟩
end Jvm.Pilot.@@N@@
namespace Jvm.Pilot.@@N@@
open Jvm Jvm.ClassFile Sem Op Lib Jvm.Free Jvm.Stand Jvm.Pilot.@@N@@.Jvm.D
/-! MADE BY PROGRAM (witnessworld.py) out of the Statement's table words and the real class files: 20 classes; the members and pool entries that the words name. The judged class is class 1, her method 2. -/
namespace start1
open Jvm.ClassFile
def u (s : String) : CpInfo := .utf8 (stringToUtf16 s)
/-- a pool by its gaps: so many unusable entries, then the entry; so many at the end -/
def gap : Nat → List CpInfo → List CpInfo
  | 0, r => r
  | n + 1, r => .unusable :: gap n r
def poolList (es : List (Nat × CpInfo)) (last : Nat) : List CpInfo := es.foldr (fun e r => gap e.1 (e.2 :: r)) (gap last [])
def pool (es : List (Nat × CpInfo)) (last : Nat) : Array CpInfo := ⟨poolList es last⟩
def fileOf (pool : Array CpInfo) (this : Nat) (attrs : Array Attribute := #[]) (ms : Array MethodInfo := #[]) (fl : Nat := 33) (sup : Nat := 0) (ifs : Array Nat := #[]) (fds : Array FieldInfo := #[]) : ClassFile where
  minorVersion := 0
  majorVersion := 65
  constantPool := pool
  accessFlags := fl
  thisClass := this
  superClass := sup
  interfaces := ifs
  fields := fds
  methods := ms
  attributes := attrs
def plain (name : String) (sup : Option ClassId) : Class where
  name := name
  kind := .ordinary
  loader := none
  accessFlags := 33
  super := sup
  interfaces := #[]
  cf := none
  fields := #[]
  methods := #[]
  instanceTypes := #[]
  staticTypes := #[]
  resolved := #[]
  callSites := []
  init := .initialized
  statics := none
  mirror := none

def pool0 : Array CpInfo := pool [(5, u "<init>"), (0, u "()V"), (1, .class_ 10), (1, u "java/lang/Object")] 113

def k0c0 : Code := { maxStack := 0, maxLocals := 1, code := object_method_1_code, exceptionTable := #[], attributes := #[] }
def k0m0 : Method := { name := "<init>", desc := "()V", sig := { parameters := [], returnType := none }, accessFlags := 1, code := some k0c0 }
/-- java/lang/Object -/
def k0 : Class := { plain "java/lang/Object" none with
  accessFlags := 33
  interfaces := #[]
  cf := some (fileOf pool0 8 #[] #[{ accessFlags := 1, nameIndex := 5, descriptorIndex := 6, attributes := #[] }] 33 0 #[] #[])
  fields := #[]
  methods := #[k0m0]
  instanceTypes := #[]
  staticTypes := #[]
  resolved := Array.replicate 124 none
  statics := none }

def pool1 : Array CpInfo := pool [(2, .class_ 4), (1, u "java/lang/Object"), (0, u "<init>"), (0, u "()V"), (0, .long 10), (3, .long 9223372036854775807), (1, .long 100000000000000), (1, .long 100), (1, .methodref 18 19), (0, .class_ 20), (0, .nameAndType 21 22), (0, u "com/example/quittance/quittance/MoneyNonNegativePinLaw"), (0, u "d"), (0, u "(JJ)C"), (0, .long 1000), (1, .long 10000000), (1, .long 1000000), (1, .long 100000), (1, .long 10000), (1, .long 10000000000000), (1, .long 1000000000000), (1, .long 100000000000), (1, .long 10000000000), (1, .long 1000000000), (1, .long 100000000), (1, .class_ 46), (0, u "java/lang/String"), (0, .methodref 45 48), (0, .nameAndType 5 49), (0, u "([C)V"), (0, .string 51), (0, u "amount"), (0, .methodref 53 54), (0, .class_ 55), (0, .nameAndType 56 57), (0, u "com/example/quittance/quittance/Money"), (0, u "nonNegative"), (0, u "(Ljava/lang/String;Ljava/lang/String;)J"), (2, u "law"), (0, u "(JI)Z")] 8

def k1m0 : Method := { name := "<init>", desc := "()V", sig := { parameters := [], returnType := none }, accessFlags := 2, code := none }
def k1c1 : Code := { maxStack := 5, maxLocals := 4, code := method_2_code, exceptionTable := #[], attributes := #[] }
def k1m1 : Method := { name := "d", desc := "(JJ)C", sig := { parameters := [.long, .long], returnType := some .char }, accessFlags := 10, code := some k1c1 }
def k1c2 : Code := { maxStack := 6, maxLocals := 14, code := code, exceptionTable := #[], attributes := #[] }
def k1m2 : Method := { name := "law", desc := "(JI)Z", sig := { parameters := [.long, .int], returnType := some .boolean }, accessFlags := 9, code := some k1c2 }
/-- com/example/quittance/quittance/MoneyNonNegativePinLaw -/
def k1 : Class := { plain "com/example/quittance/quittance/MoneyNonNegativePinLaw" (some 0) with
  accessFlags := 49
  interfaces := #[]
  cf := some (fileOf pool1 18 #[] #[{ accessFlags := 2, nameIndex := 5, descriptorIndex := 6, attributes := #[] }, { accessFlags := 10, nameIndex := 21, descriptorIndex := 22, attributes := #[] }, { accessFlags := 9, nameIndex := 60, descriptorIndex := 61, attributes := #[] }] 49 2 #[] #[])
  fields := #[]
  methods := #[k1m0, k1m1, k1m2]
  instanceTypes := #[]
  staticTypes := #[]
  resolved := Array.replicate 70 none
  statics := none }

def pool2 : Array CpInfo := pool [(1, .class_ 2), (0, u "java/io/Serializable"), (0, .class_ 4), (0, u "java/lang/Object")] 2

/-- java/io/Serializable -/
def k2 : Class := { plain "java/io/Serializable" (some 0) with
  accessFlags := 1537
  interfaces := #[]
  cf := some (fileOf pool2 1 #[] #[] 1537 3 #[] #[])
  fields := #[]
  methods := #[]
  instanceTypes := #[]
  staticTypes := #[]
  resolved := Array.replicate 7 none
  statics := none }

def pool3 : Array CpInfo := pool [(1, .class_ 2), (0, u "java/lang/Comparable"), (0, .class_ 4), (0, u "java/lang/Object")] 7

/-- java/lang/Comparable -/
def k3 : Class := { plain "java/lang/Comparable" (some 0) with
  accessFlags := 1537
  interfaces := #[]
  cf := some (fileOf pool3 1 #[] #[] 1537 3 #[] #[])
  fields := #[]
  methods := #[]
  instanceTypes := #[]
  staticTypes := #[]
  resolved := Array.replicate 12 none
  statics := none }

def pool4 : Array CpInfo := pool [(2, .class_ 4), (1, u "java/lang/CharSequence"), (42, .class_ 48), (0, u "java/lang/CharSequence$1CodePointIterator"), (10, .class_ 60), (0, u "java/lang/CharSequence$1CharIterator"), (5, .class_ 67), (0, u "java/lang/Object")] 63

/-- java/lang/CharSequence -/
def k4 : Class := { plain "java/lang/CharSequence" (some 0) with
  accessFlags := 1537
  interfaces := #[]
  cf := some (fileOf pool4 2 #[.nestMembers #[47, 59]] #[] 1537 66 #[] #[])
  fields := #[]
  methods := #[]
  instanceTypes := #[]
  staticTypes := #[]
  resolved := Array.replicate 131 none
  statics := none }

def pool5 : Array CpInfo := pool [(1, .class_ 2), (0, u "java/lang/constant/Constable"), (0, .class_ 4), (0, u "java/lang/Object")] 6

/-- java/lang/constant/Constable -/
def k5 : Class := { plain "java/lang/constant/Constable" (some 0) with
  accessFlags := 1537
  interfaces := #[]
  cf := some (fileOf pool5 1 #[] #[] 1537 3 #[] #[])
  fields := #[]
  methods := #[]
  instanceTypes := #[]
  staticTypes := #[]
  resolved := Array.replicate 11 none
  statics := none }

def pool6 : Array CpInfo := pool [(1, .class_ 2), (0, u "java/lang/constant/ConstantDesc"), (0, .class_ 4), (0, u "java/lang/Object")] 32

/-- java/lang/constant/ConstantDesc -/
def k6 : Class := { plain "java/lang/constant/ConstantDesc" (some 0) with
  accessFlags := 1537
  interfaces := #[]
  cf := some (fileOf pool6 1 #[] #[] 1537 3 #[] #[])
  fields := #[]
  methods := #[]
  instanceTypes := #[]
  staticTypes := #[]
  resolved := Array.replicate 37 none
  statics := none }

def pool7 : Array CpInfo := pool [(1, .methodref 2 3), (0, .class_ 4), (0, .nameAndType 5 6), (0, u "java/lang/Object"), (0, u "<init>"), (0, u "()V"), (2, .fieldref 10 11), (0, .class_ 12), (0, .nameAndType 13 14), (0, u "java/lang/String"), (0, u "value"), (0, u "[B"), (0, .fieldref 10 16), (0, .nameAndType 17 18), (0, u "coder"), (0, u "B"), (2, u "hash"), (0, u "I"), (2, u "hashIsZero"), (0, u "Z"), (0, .methodref 10 28), (0, .nameAndType 5 29), (0, u "([CIILjava/lang/Void;)V"), (8, .fieldref 10 39), (0, .nameAndType 40 26), (0, u "COMPACT_STRINGS"), (1, .class_ 44), (1, u "java/lang/StringUTF16"), (0, u "compress"), (1, .methodref 42 48), (0, .nameAndType 49 50), (0, u "coderFromArrayLen"), (0, u "([BI)B"), (56, .class_ 109), (1, u "java/lang/StringLatin1"), (32, u "()Z"), (34, .methodref 42 178), (0, .nameAndType 45 179), (0, u "([CII)[B"), (154, u "()I"), (0, .methodref 10 336), (0, .nameAndType 17 337), (0, u "()B"), (25, u "([BI)C"), (27, u "(II)V"), (35, u "(I)C"), (64, .methodref 10 493), (0, .nameAndType 494 142), (0, u "isLatin1"), (0, .methodref 107 496), (0, .nameAndType 497 363), (0, u "charAt"), (3, u "checkIndex"), (5, u "length"), (67, .class_ 576), (0, u "java/lang/CharSequence"), (22, u "CASE_INSENSITIVE_ORDER"), (0, u "Ljava/util/Comparator;"), (409, u "([C)V"), (42, .fieldref 1054 1055), (0, .class_ 1056), (0, .nameAndType 1057 1058), (0, u "jdk/internal/util/Preconditions"), (0, u "SIOOBE_FORMATTER"), (0, u "Ljava/util/function/BiFunction;"), (0, .methodref 1054 1060), (0, .nameAndType 501 1061), (0, u "(IILjava/util/function/BiFunction;)I"), (39, u "serialPersistentFields"), (0, u "[Ljava/io/ObjectStreamField;"), (0, .class_ 1104), (0, u "java/lang/String$CaseInsensitiveComparator"), (1, .class_ 1107), (0, u "java/io/Serializable"), (0, .class_ 1109), (0, u "java/lang/Comparable"), (0, .class_ 1111), (0, u "java/lang/constant/Constable"), (0, .class_ 1113), (0, u "java/lang/constant/ConstantDesc"), (2, u "serialVersionUID"), (0, u "J"), (3, u "REPL"), (0, u "C"), (2, u "LATIN1"), (1, u "UTF16")] 323

def k7m0 : Method := { name := "<init>", desc := "()V", sig := { parameters := [], returnType := none }, accessFlags := 1, code := none }
def k7c1 : Code := { maxStack := 5, maxLocals := 2, code := jdk_42_method_3_code, exceptionTable := #[], attributes := #[] }
def k7m1 : Method := { name := "<init>", desc := "([C)V", sig := { parameters := [(.array .char)], returnType := none }, accessFlags := 1, code := some k7c1 }
def k7c2 : Code := { maxStack := 2, maxLocals := 1, code := jdk_42_method_54_code, exceptionTable := #[], attributes := #[] }
def k7m2 : Method := { name := "length", desc := "()I", sig := { parameters := [], returnType := some .int }, accessFlags := 1, code := some k7c2 }
def k7c3 : Code := { maxStack := 2, maxLocals := 2, code := jdk_42_method_56_code, exceptionTable := #[], attributes := #[] }
def k7m3 : Method := { name := "charAt", desc := "(I)C", sig := { parameters := [.int], returnType := some .char }, accessFlags := 1, code := some k7c3 }
def k7c4 : Code := { maxStack := 4, maxLocals := 6, code := jdk_42_method_149_code, exceptionTable := #[], attributes := #[] }
def k7m4 : Method := { name := "<init>", desc := "([CIILjava/lang/Void;)V", sig := { parameters := [(.array .char), .int, .int, (.object "java/lang/Void")], returnType := none }, accessFlags := 2, code := some k7c4 }
def k7c5 : Code := { maxStack := 1, maxLocals := 1, code := jdk_42_method_152_code, exceptionTable := #[], attributes := #[] }
def k7m5 : Method := { name := "coder", desc := "()B", sig := { parameters := [], returnType := some .byte }, accessFlags := 0, code := some k7c5 }
def k7c6 : Code := { maxStack := 1, maxLocals := 1, code := jdk_42_method_154_code, exceptionTable := #[], attributes := #[] }
def k7m6 : Method := { name := "isLatin1", desc := "()Z", sig := { parameters := [], returnType := some .boolean }, accessFlags := 0, code := some k7c6 }
def k7c7 : Code := { maxStack := 3, maxLocals := 2, code := jdk_42_method_155_code, exceptionTable := #[], attributes := #[] }
def k7m7 : Method := { name := "checkIndex", desc := "(II)V", sig := { parameters := [.int, .int], returnType := none }, accessFlags := 8, code := some k7c7 }
/-- java/lang/String -/
def k7 : Class := { plain "java/lang/String" (some 0) with
  accessFlags := 49
  interfaces := #[2, 3, 4, 5, 6]
  cf := some (fileOf pool7 10 #[.nestMembers #[1103]] #[{ accessFlags := 1, nameIndex := 5, descriptorIndex := 6, attributes := #[] }, { accessFlags := 1, nameIndex := 5, descriptorIndex := 1010, attributes := #[] }, { accessFlags := 1, nameIndex := 507, descriptorIndex := 334, attributes := #[] }, { accessFlags := 1, nameIndex := 497, descriptorIndex := 427, attributes := #[] }, { accessFlags := 2, nameIndex := 5, descriptorIndex := 29, attributes := #[] }, { accessFlags := 0, nameIndex := 17, descriptorIndex := 337, attributes := #[] }, { accessFlags := 0, nameIndex := 494, descriptorIndex := 142, attributes := #[] }, { accessFlags := 8, nameIndex := 501, descriptorIndex := 391, attributes := #[] }] 49 2 #[1106, 1108, 575, 1110, 1112] #[{ accessFlags := 18, nameIndex := 13, descriptorIndex := 14, attributes := #[] }, { accessFlags := 18, nameIndex := 17, descriptorIndex := 18, attributes := #[] }, { accessFlags := 2, nameIndex := 21, descriptorIndex := 22, attributes := #[] }, { accessFlags := 2, nameIndex := 25, descriptorIndex := 26, attributes := #[] }, { accessFlags := 26, nameIndex := 1116, descriptorIndex := 1117, attributes := #[] }, { accessFlags := 24, nameIndex := 40, descriptorIndex := 26, attributes := #[] }, { accessFlags := 26, nameIndex := 1101, descriptorIndex := 1102, attributes := #[] }, { accessFlags := 26, nameIndex := 1121, descriptorIndex := 1122, attributes := #[] }, { accessFlags := 25, nameIndex := 599, descriptorIndex := 600, attributes := #[] }, { accessFlags := 24, nameIndex := 1125, descriptorIndex := 18, attributes := #[] }, { accessFlags := 24, nameIndex := 1127, descriptorIndex := 18, attributes := #[] }])
  fields := #[{ name := "value", type := (.array .byte), accessFlags := 18, slot := 0, constantValue := 0 }, { name := "coder", type := .byte, accessFlags := 18, slot := 1, constantValue := 0 }, { name := "hash", type := .int, accessFlags := 2, slot := 2, constantValue := 0 }, { name := "hashIsZero", type := .boolean, accessFlags := 2, slot := 3, constantValue := 0 }, { name := "serialVersionUID", type := .long, accessFlags := 26, slot := 0, constantValue := 0 }, { name := "COMPACT_STRINGS", type := .boolean, accessFlags := 24, slot := 1, constantValue := 0 }, { name := "serialPersistentFields", type := (.array (.object "java/io/ObjectStreamField")), accessFlags := 26, slot := 2, constantValue := 0 }, { name := "REPL", type := .char, accessFlags := 26, slot := 3, constantValue := 0 }, { name := "CASE_INSENSITIVE_ORDER", type := (.object "java/util/Comparator"), accessFlags := 25, slot := 4, constantValue := 0 }, { name := "LATIN1", type := .byte, accessFlags := 24, slot := 5, constantValue := 0 }, { name := "UTF16", type := .byte, accessFlags := 24, slot := 6, constantValue := 0 }]
  methods := #[k7m0, k7m1, k7m2, k7m3, k7m4, k7m5, k7m6, k7m7]
  instanceTypes := #[(.array .byte), .byte, .int, .boolean]
  staticTypes := #[.long, .boolean, (.array (.object "java/io/ObjectStreamField")), .char, (.object "java/util/Comparator"), .byte, .byte]
  resolved := Array.replicate 1451 none
  statics := some 0 }

def pool8 : Array CpInfo := pool [(6, .class_ 8), (1, u "java/lang/Object"), (0, u "<init>"), (0, u "()V"), (1, .class_ 14), (1, u "java/lang/StringUTF16"), (31, u "$assertionsDisabled"), (0, u "Z"), (13, u "HI_BYTE_SHIFT"), (0, u "I"), (2, u "LO_BYTE_SHIFT"), (49, .methodref 12 116), (0, .nameAndType 117 118), (0, u "compress"), (0, u "([CI[BII)I"), (3, u "([CII)[B"), (138, u "coderFromArrayLen"), (0, u "([BI)B"), (106, .class_ 371), (1, u "java/lang/StringUTF16$LinesSpliterator"), (58, u "MAX_LENGTH"), (196, .class_ 628), (0, u "java/lang/StringUTF16$CodePointsSpliterator"), (0, .class_ 630), (0, u "java/lang/StringUTF16$CharsSpliterator")] 4

def k8m0 : Method := { name := "<init>", desc := "()V", sig := { parameters := [], returnType := none }, accessFlags := 0, code := none }
def k8c1 : Code := { maxStack := 2, maxLocals := 2, code := jdk_52_method_15_code, exceptionTable := #[], attributes := #[] }
def k8m1 : Method := { name := "coderFromArrayLen", desc := "([BI)B", sig := { parameters := [(.array .byte), .int], returnType := some .byte }, accessFlags := 8, code := some k8c1 }
def k8c2 : Code := { maxStack := 5, maxLocals := 6, code := jdk_52_method_16_code, exceptionTable := #[], attributes := #[] }
def k8m2 : Method := { name := "compress", desc := "([CII)[B", sig := { parameters := [(.array .char), .int, .int], returnType := some (.array .byte) }, accessFlags := 9, code := some k8c2 }
def k8c3 : Code := { maxStack := 3, maxLocals := 7, code := jdk_52_method_21_code, exceptionTable := #[], attributes := #[] }
def k8m3 : Method := { name := "compress", desc := "([CI[BII)I", sig := { parameters := [(.array .char), .int, (.array .byte), .int, .int], returnType := some .int }, accessFlags := 9, code := some k8c3 }
/-- java/lang/StringUTF16 -/
def k8 : Class := { plain "java/lang/StringUTF16" (some 0) with
  accessFlags := 48
  interfaces := #[]
  cf := some (fileOf pool8 12 #[.nestMembers #[627, 629, 369]] #[{ accessFlags := 0, nameIndex := 9, descriptorIndex := 10, attributes := #[] }, { accessFlags := 8, nameIndex := 261, descriptorIndex := 262, attributes := #[] }, { accessFlags := 9, nameIndex := 117, descriptorIndex := 122, attributes := #[] }, { accessFlags := 9, nameIndex := 117, descriptorIndex := 118, attributes := #[] }] 48 6 #[] #[{ accessFlags := 26, nameIndex := 61, descriptorIndex := 62, attributes := #[] }, { accessFlags := 26, nameIndex := 65, descriptorIndex := 62, attributes := #[] }, { accessFlags := 24, nameIndex := 430, descriptorIndex := 62, attributes := #[] }, { accessFlags := 4120, nameIndex := 46, descriptorIndex := 47, attributes := #[] }])
  fields := #[{ name := "HI_BYTE_SHIFT", type := .int, accessFlags := 26, slot := 0, constantValue := 0 }, { name := "LO_BYTE_SHIFT", type := .int, accessFlags := 26, slot := 1, constantValue := 0 }, { name := "MAX_LENGTH", type := .int, accessFlags := 24, slot := 2, constantValue := 0 }, { name := "$assertionsDisabled", type := .boolean, accessFlags := 4120, slot := 3, constantValue := 0 }]
  methods := #[k8m0, k8m1, k8m2, k8m3]
  instanceTypes := #[]
  staticTypes := #[.int, .int, .int, .boolean]
  resolved := Array.replicate 635 none
  statics := none }

def pool9 : Array CpInfo := pool [(2, .class_ 4), (1, u "java/lang/Object"), (0, u "<init>"), (0, u "()V"), (0, .methodref 8 9), (0, .class_ 10), (0, .nameAndType 11 12), (0, u "com/example/quittance/quittance/Money"), (0, u "cents"), (0, u "(Ljava/lang/String;)J"), (13, .class_ 28), (1, u "java/lang/String"), (8, .methodref 26 38), (0, .nameAndType 39 40), (0, u "length"), (0, u "()I"), (0, .methodref 26 42), (0, .nameAndType 43 44), (0, u "charAt"), (0, u "(I)C"), (0, .long 18446744073709551615), (1, .long 10), (19, u "WHOLE_DIGITS"), (0, u "I"), (2, u "MAX"), (0, u "J"), (2, u "CURRENCY"), (0, u "Ljava/lang/String;"), (5, u "(Ljava/lang/String;Ljava/lang/String;)J"), (2, u "nonNegative")] 20

def k9m0 : Method := { name := "<init>", desc := "()V", sig := { parameters := [], returnType := none }, accessFlags := 2, code := none }
def k9c1 : Code := { maxStack := 4, maxLocals := 4, code := prog_6_method_3_code, exceptionTable := #[], attributes := #[] }
def k9m1 : Method := { name := "nonNegative", desc := "(Ljava/lang/String;Ljava/lang/String;)J", sig := { parameters := [(.object "java/lang/String"), (.object "java/lang/String")], returnType := some .long }, accessFlags := 8, code := some k9c1 }
def k9c2 : Code := { maxStack := 4, maxLocals := 6, code := prog_6_method_5_code, exceptionTable := #[], attributes := #[] }
def k9m2 : Method := { name := "cents", desc := "(Ljava/lang/String;)J", sig := { parameters := [(.object "java/lang/String")], returnType := some .long }, accessFlags := 10, code := some k9c2 }
/-- com/example/quittance/quittance/Money -/
def k9 : Class := { plain "com/example/quittance/quittance/Money" (some 0) with
  accessFlags := 48
  interfaces := #[]
  cf := some (fileOf pool9 8 #[] #[{ accessFlags := 2, nameIndex := 5, descriptorIndex := 6, attributes := #[] }, { accessFlags := 8, nameIndex := 85, descriptorIndex := 82, attributes := #[] }, { accessFlags := 10, nameIndex := 11, descriptorIndex := 12, attributes := #[] }] 48 2 #[] #[{ accessFlags := 26, nameIndex := 67, descriptorIndex := 68, attributes := #[] }, { accessFlags := 24, nameIndex := 71, descriptorIndex := 72, attributes := #[] }, { accessFlags := 24, nameIndex := 75, descriptorIndex := 76, attributes := #[] }])
  fields := #[{ name := "WHOLE_DIGITS", type := .int, accessFlags := 26, slot := 0, constantValue := 0 }, { name := "MAX", type := .long, accessFlags := 24, slot := 1, constantValue := 0 }, { name := "CURRENCY", type := (.object "java/lang/String"), accessFlags := 24, slot := 2, constantValue := 0 }]
  methods := #[k9m0, k9m1, k9m2]
  instanceTypes := #[]
  staticTypes := #[.int, .long, (.object "java/lang/String")]
  resolved := Array.replicate 106 none
  statics := none }

def pool10 : Array CpInfo := pool [(1, .class_ 2), (0, u "java/lang/String"), (1, .class_ 6), (1, u "java/lang/Object"), (0, u "<init>"), (0, u "()V"), (0, .methodref 1 10), (0, .nameAndType 11 12), (0, u "checkIndex"), (0, u "(II)V"), (1, .class_ 16), (1, u "java/lang/StringLatin1"), (36, u "([BI)C"), (67, u "$assertionsDisabled"), (0, u "Z"), (98, .class_ 223), (1, u "java/lang/StringLatin1$LinesSpliterator"), (28, u "charAt"), (137, .class_ 391), (0, u "java/lang/StringLatin1$CharsSpliterator")] 3

def k10m0 : Method := { name := "<init>", desc := "()V", sig := { parameters := [], returnType := none }, accessFlags := 0, code := none }
def k10c1 : Code := { maxStack := 2, maxLocals := 2, code := jdk_43_method_2_code, exceptionTable := #[], attributes := #[] }
def k10m1 : Method := { name := "charAt", desc := "([BI)C", sig := { parameters := [(.array .byte), .int], returnType := some .char }, accessFlags := 9, code := some k10c1 }
/-- java/lang/StringLatin1 -/
def k10 : Class := { plain "java/lang/StringLatin1" (some 0) with
  accessFlags := 48
  interfaces := #[]
  cf := some (fileOf pool10 14 #[.nestMembers #[390, 221]] #[{ accessFlags := 0, nameIndex := 7, descriptorIndex := 8, attributes := #[] }, { accessFlags := 9, nameIndex := 252, descriptorIndex := 53, attributes := #[] }] 48 4 #[] #[{ accessFlags := 4120, nameIndex := 121, descriptorIndex := 122, attributes := #[] }])
  fields := #[{ name := "$assertionsDisabled", type := .boolean, accessFlags := 4120, slot := 0, constantValue := 0 }]
  methods := #[k10m0, k10m1]
  instanceTypes := #[]
  staticTypes := #[.boolean]
  resolved := Array.replicate 395 none
  statics := none }

def pool11 : Array CpInfo := pool [(2, .class_ 4), (1, u "java/lang/Object"), (0, u "<init>"), (0, u "()V"), (17, .class_ 26), (1, u "jdk/internal/util/Preconditions"), (6, u "checkIndex"), (21, .class_ 56), (0, u "jdk/internal/util/Preconditions$4"), (57, .class_ 115), (0, u "jdk/internal/util/Preconditions$1"), (7, u "SIOOBE_FORMATTER"), (0, u "Ljava/util/function/BiFunction;"), (0, .class_ 126), (0, u "jdk/internal/util/Preconditions$2"), (3, u "AIOOBE_FORMATTER"), (0, .class_ 132), (0, u "jdk/internal/util/Preconditions$3"), (3, u "IOOBE_FORMATTER"), (41, u "(IILjava/util/function/BiFunction;)I")] 15

def k11m0 : Method := { name := "<init>", desc := "()V", sig := { parameters := [], returnType := none }, accessFlags := 1, code := none }
def k11c1 : Code := { maxStack := 3, maxLocals := 3, code := jdk_41_method_11_code, exceptionTable := #[], attributes := #[] }
def k11m1 : Method := { name := "checkIndex", desc := "(IILjava/util/function/BiFunction;)I", sig := { parameters := [.int, .int, (.object "java/util/function/BiFunction")], returnType := some .int }, accessFlags := 9, code := some k11c1 }
/-- jdk/internal/util/Preconditions -/
def k11 : Class := { plain "jdk/internal/util/Preconditions" (some 0) with
  accessFlags := 33
  interfaces := #[]
  cf := some (fileOf pool11 24 #[.nestMembers #[55, 131, 125, 114]] #[{ accessFlags := 1, nameIndex := 5, descriptorIndex := 6, attributes := #[] }, { accessFlags := 9, nameIndex := 33, descriptorIndex := 178, attributes := #[] }] 33 2 #[] #[{ accessFlags := 25, nameIndex := 123, descriptorIndex := 124, attributes := #[] }, { accessFlags := 25, nameIndex := 130, descriptorIndex := 124, attributes := #[] }, { accessFlags := 25, nameIndex := 136, descriptorIndex := 124, attributes := #[] }])
  fields := #[{ name := "SIOOBE_FORMATTER", type := (.object "java/util/function/BiFunction"), accessFlags := 25, slot := 0, constantValue := 0 }, { name := "AIOOBE_FORMATTER", type := (.object "java/util/function/BiFunction"), accessFlags := 25, slot := 1, constantValue := 0 }, { name := "IOOBE_FORMATTER", type := (.object "java/util/function/BiFunction"), accessFlags := 25, slot := 2, constantValue := 0 }]
  methods := #[k11m0, k11m1]
  instanceTypes := #[]
  staticTypes := #[(.object "java/util/function/BiFunction"), (.object "java/util/function/BiFunction"), (.object "java/util/function/BiFunction")]
  resolved := Array.replicate 194 none
  statics := some 1 }

def pool12 : Array CpInfo := pool [(9, u "<init>"), (6, .class_ 18), (1, u "java/lang/Object"), (0, u "()V"), (1, .class_ 23), (1, u "jdk/internal/util/ArraysSupport"), (0, u "LOG2_ARRAY_LONG_INDEX_SCALE"), (0, u "I"), (2, u "U"), (0, u "Ljdk/internal/misc/Unsafe;"), (8, u "BIG_ENDIAN"), (0, u "Z"), (8, u "LOG2_BYTE_BIT_SIZE"), (4, u "LOG2_ARRAY_INT_INDEX_SCALE"), (54, u "JLA"), (0, u "Ljdk/internal/access/JavaLangAccess;"), (11, u "LOG2_ARRAY_BOOLEAN_INDEX_SCALE"), (9, u "LOG2_ARRAY_BYTE_INDEX_SCALE"), (5, u "LOG2_ARRAY_CHAR_INDEX_SCALE"), (5, u "LOG2_ARRAY_SHORT_INDEX_SCALE"), (18, u "LOG2_ARRAY_FLOAT_INDEX_SCALE"), (24, u "LOG2_ARRAY_DOUBLE_INDEX_SCALE"), (89, u "T_BOOLEAN"), (2, u "T_CHAR"), (1, u "T_FLOAT"), (1, u "T_DOUBLE"), (1, u "T_BYTE"), (1, u "T_SHORT"), (1, u "T_INT"), (1, u "T_LONG"), (1, u "SOFT_MAX_ARRAY_LENGTH")] 83

def k12m0 : Method := { name := "<init>", desc := "()V", sig := { parameters := [], returnType := none }, accessFlags := 2, code := none }
/-- jdk/internal/util/ArraysSupport -/
def k12 : Class := { plain "jdk/internal/util/ArraysSupport" (some 0) with
  accessFlags := 33
  interfaces := #[]
  cf := some (fileOf pool12 21 #[] #[{ accessFlags := 2, nameIndex := 9, descriptorIndex := 19, attributes := #[] }] 33 16 #[] #[{ accessFlags := 24, nameIndex := 28, descriptorIndex := 29, attributes := #[] }, { accessFlags := 26, nameIndex := 38, descriptorIndex := 39, attributes := #[] }, { accessFlags := 25, nameIndex := 121, descriptorIndex := 25, attributes := #[] }, { accessFlags := 25, nameIndex := 131, descriptorIndex := 25, attributes := #[] }, { accessFlags := 25, nameIndex := 137, descriptorIndex := 25, attributes := #[] }, { accessFlags := 25, nameIndex := 143, descriptorIndex := 25, attributes := #[] }, { accessFlags := 25, nameIndex := 53, descriptorIndex := 25, attributes := #[] }, { accessFlags := 25, nameIndex := 24, descriptorIndex := 25, attributes := #[] }, { accessFlags := 25, nameIndex := 162, descriptorIndex := 25, attributes := #[] }, { accessFlags := 25, nameIndex := 187, descriptorIndex := 25, attributes := #[] }, { accessFlags := 26, nameIndex := 48, descriptorIndex := 25, attributes := #[] }, { accessFlags := 25, nameIndex := 277, descriptorIndex := 25, attributes := #[] }, { accessFlags := 25, nameIndex := 280, descriptorIndex := 25, attributes := #[] }, { accessFlags := 25, nameIndex := 282, descriptorIndex := 25, attributes := #[] }, { accessFlags := 25, nameIndex := 284, descriptorIndex := 25, attributes := #[] }, { accessFlags := 25, nameIndex := 286, descriptorIndex := 25, attributes := #[] }, { accessFlags := 25, nameIndex := 288, descriptorIndex := 25, attributes := #[] }, { accessFlags := 25, nameIndex := 290, descriptorIndex := 25, attributes := #[] }, { accessFlags := 25, nameIndex := 292, descriptorIndex := 25, attributes := #[] }, { accessFlags := 26, nameIndex := 108, descriptorIndex := 109, attributes := #[] }, { accessFlags := 25, nameIndex := 294, descriptorIndex := 25, attributes := #[] }])
  fields := #[{ name := "U", type := (.object "jdk/internal/misc/Unsafe"), accessFlags := 24, slot := 0, constantValue := 0 }, { name := "BIG_ENDIAN", type := .boolean, accessFlags := 26, slot := 1, constantValue := 0 }, { name := "LOG2_ARRAY_BOOLEAN_INDEX_SCALE", type := .int, accessFlags := 25, slot := 2, constantValue := 0 }, { name := "LOG2_ARRAY_BYTE_INDEX_SCALE", type := .int, accessFlags := 25, slot := 3, constantValue := 0 }, { name := "LOG2_ARRAY_CHAR_INDEX_SCALE", type := .int, accessFlags := 25, slot := 4, constantValue := 0 }, { name := "LOG2_ARRAY_SHORT_INDEX_SCALE", type := .int, accessFlags := 25, slot := 5, constantValue := 0 }, { name := "LOG2_ARRAY_INT_INDEX_SCALE", type := .int, accessFlags := 25, slot := 6, constantValue := 0 }, { name := "LOG2_ARRAY_LONG_INDEX_SCALE", type := .int, accessFlags := 25, slot := 7, constantValue := 0 }, { name := "LOG2_ARRAY_FLOAT_INDEX_SCALE", type := .int, accessFlags := 25, slot := 8, constantValue := 0 }, { name := "LOG2_ARRAY_DOUBLE_INDEX_SCALE", type := .int, accessFlags := 25, slot := 9, constantValue := 0 }, { name := "LOG2_BYTE_BIT_SIZE", type := .int, accessFlags := 26, slot := 10, constantValue := 0 }, { name := "T_BOOLEAN", type := .int, accessFlags := 25, slot := 11, constantValue := 0 }, { name := "T_CHAR", type := .int, accessFlags := 25, slot := 12, constantValue := 0 }, { name := "T_FLOAT", type := .int, accessFlags := 25, slot := 13, constantValue := 0 }, { name := "T_DOUBLE", type := .int, accessFlags := 25, slot := 14, constantValue := 0 }, { name := "T_BYTE", type := .int, accessFlags := 25, slot := 15, constantValue := 0 }, { name := "T_SHORT", type := .int, accessFlags := 25, slot := 16, constantValue := 0 }, { name := "T_INT", type := .int, accessFlags := 25, slot := 17, constantValue := 0 }, { name := "T_LONG", type := .int, accessFlags := 25, slot := 18, constantValue := 0 }, { name := "JLA", type := (.object "jdk/internal/access/JavaLangAccess"), accessFlags := 26, slot := 19, constantValue := 0 }, { name := "SOFT_MAX_ARRAY_LENGTH", type := .int, accessFlags := 25, slot := 20, constantValue := 0 }]
  methods := #[k12m0]
  instanceTypes := #[]
  staticTypes := #[(.object "jdk/internal/misc/Unsafe"), .boolean, .int, .int, .int, .int, .int, .int, .int, .int, .int, .int, .int, .int, .int, .int, .int, .int, .int, (.object "jdk/internal/access/JavaLangAccess"), .int]
  resolved := Array.replicate 378 none
  statics := none }

def pool13 : Array CpInfo := pool [(1, u "java/lang/Cloneable"), (0, .class_ 1), (0, u "java/lang/Object"), (0, .class_ 3)] 3

/-- java/lang/Cloneable -/
def k13 : Class := { plain "java/lang/Cloneable" (some 0) with
  accessFlags := 1537
  interfaces := #[]
  cf := some (fileOf pool13 2 #[] #[] 1537 4 #[] #[])
  fields := #[]
  methods := #[]
  instanceTypes := #[]
  staticTypes := #[]
  resolved := Array.replicate 8 none
  statics := none }

/-- the primitive byte -/
def k14 : Class := { plain "byte" none with kind := .primitive 'B', accessFlags := 0x411 }
/-- [B -/
def k15 : Class := { plain "[B" (some 0) with kind := .array 14 .byte, interfaces := #[13, 2], accessFlags := 1041 }

/-- the primitive char -/
def k16 : Class := { plain "char" none with kind := .primitive 'C', accessFlags := 0x411 }
/-- [C -/
def k17 : Class := { plain "[C" (some 0) with kind := .array 16 .char, interfaces := #[13, 2], accessFlags := 1041 }

/-- the primitive int -/
def k18 : Class := { plain "int" none with kind := .primitive 'I', accessFlags := 0x411 }
/-- [I -/
def k19 : Class := { plain "[I" (some 0) with kind := .array 18 .int, interfaces := #[13, 2], accessFlags := 1041 }

def heap : Heap := #[{ cls := 7, slots := #[.long 0, .int 1, .null, .int 0, .null, .int 0, .int 0], vm := .statics 7 },
  { cls := 11, slots := #[.null, .null, .null], vm := .statics 11 }]
def classes : Array Class := #[k0, k1, k2, k3, k4, k5, k6, k7, k8, k9, k10, k11, k12, k13, k14, k15, k16, k17, k18, k19]
def interned : List (Array UInt16 × Addr) := []
def slotsUsed : Nat := 10
def theMethod : MethodId := ⟨1, 2⟩
def args0 : Array Value := #[.long 5, .int 5]
def aboutOver (below : List Frame) : State where
  vm := { classes := classes, interned := interned.toArray }
  heap := heap
  slotsUsed := slotsUsed
  threads := #[{ frames := .invoking theMethod args0 :: below }]
def below0 : List Frame := [.native { method := ⟨0, 0⟩, args := #[] }]
def about1 : State := aboutOver below0
def p0 : Program := .bare "" "" ""
def e0 : Env := launch0.env 0 0 0
theorem w_frames : about1.frames = Frame.invoking theMethod args0 :: below0 := rfl
set_option maxRecDepth 65536 in
theorem w_args : argsFit about1.vm theMethod args0 = true := by decide +kernel
set_option maxRecDepth 65536 in
theorem w_heap : heapFits about1 = true := by decide +kernel
set_option maxRecDepth 65536 in
theorem w_runnable : about1.curStatus? = some .runnable := by decide +kernel
set_option maxRecDepth 65536 in
theorem w_alone : about1.alone = true := by decide +kernel
set_option maxRecDepth 65536 in
theorem w_named : about1.methodNamed? x = some theMethod := by decide +kernel
set_option maxRecDepth 65536 in
theorem w_hears : about1.hears theMethod below0 = true := by decide +kernel
set_option maxRecDepth 65536 in
theorem w_ripe : about1.ripe theMethod args0 below0 = true := by decide +kernel
theorem w_running : about1.status = .running := rfl
set_option maxRecDepth 65536 in
theorem w_room : about1.hasRoom e0.platform room_1 = true :=
  launch0.hasRoom_least _ room_1 (by decide +kernel) (by decide +kernel) (by decide +kernel) (by decide +kernel) (by decide +kernel) (by decide +kernel)
theorem allAtoms_all (ts : List Jvm.Cond) (a : Array Jvm.Value) (st : Jvm.State) : (allAtoms ts).before a st = ts.all (fun c => c.before a st) := by
  induction ts with
  | nil => rfl
  | cons c t ih =>
    show (Jvm.Cond.and c (allAtoms t)).before a st = _
    rw [Jvm.Cond.before_and, ih, List.all_cons]
def words1 : List Jvm.Cond := Jvm.Cond.code x code maxLocals ret :: tables_1
/-- a 'code' word, met by the world's own term for the bytes: nothing is compared byte by byte -/
theorem code_word {y : MethodName} {bytes : ByteArray} {mx : Nat} {rt : Option FieldType} {a : Array Value} {s : State} {m : MethodId} {meth : Method} {c : Code} (h1 : s.methodNamed? y = some m) (h2 : s.vm.method? m = some meth) (h3 : meth.code = some c) (h4 : c.code = bytes)
    (h5 : (c.maxLocals == mx && c.exceptionTable.isEmpty && decide (c.maxStack ≤ mostOperands) && decide (meth.sig.returnType = rt) && !meth.locks && decide (parseMethodDescriptor y.desc = some meth.sig)) = true) : (Jvm.Cond.code y bytes mx rt).before a s = true := by
  simp only [Bool.and_eq_true, beq_iff_eq, Bool.not_eq_true', decide_eq_true_eq] at h5
  obtain ⟨⟨⟨⟨⟨g1, g2⟩, g3⟩, g4⟩, g5⟩, g6⟩ := h5
  simp [Cond.before, Cond.holds, Cond.value, h1, h2, h3, h4, g1, g2, g3, g4, g5, g6]
def isCode : Jvm.Cond → Bool
  | .code _ _ _ _ => true
  | _ => false
theorem all_split {L : List Jvm.Cond} {P : Jvm.Cond → Bool} (h1 : L.all (fun c => isCode c || P c) = true) (h2 : ∀ c ∈ L.filter isCode, P c = true) : L.all P = true := by
  refine List.all_eq_true.mpr fun c hc => ?_
  have h := List.all_eq_true.mp h1 c hc
  rcases Bool.eq_false_or_eq_true (isCode c) with hi | hi
  · exact h2 c (List.mem_filter.mpr ⟨hc, hi⟩)
  · simpa [hi] using h
set_option maxRecDepth 65536 in
theorem w_c0 : (Jvm.Cond.code x code maxLocals ret).before args0 about1 = true := code_word (m := ⟨1, 2⟩) (meth := k1m2) (c := k1c2) (by decide +kernel) rfl rfl rfl (by decide +kernel)
set_option maxRecDepth 65536 in
theorem w_c1 : (Jvm.Cond.code ({ cls := "com/example/quittance/quittance/MoneyNonNegativePinLaw", name := "d", desc := "(JJ)C" } : Jvm.MethodName) method_2_code (4 : Nat) (Option.some Jvm.ClassFile.FieldType.char)).before args0 about1 = true := code_word (m := ⟨1, 1⟩) (meth := k1m1) (c := k1c1) (by decide +kernel) rfl rfl rfl (by decide +kernel)
set_option maxRecDepth 65536 in
theorem w_c2 : (Jvm.Cond.code ({ cls := "java/lang/String", name := "<init>", desc := "([C)V" } : Jvm.MethodName) jdk_42_method_3_code (2 : Nat) (Option.none : Option Jvm.ClassFile.FieldType)).before args0 about1 = true := code_word (m := ⟨7, 1⟩) (meth := k7m1) (c := k7c1) (by decide +kernel) rfl rfl rfl (by decide +kernel)
set_option maxRecDepth 65536 in
theorem w_c3 : (Jvm.Cond.code ({ cls := "java/lang/String", name := "<init>", desc := "([CIILjava/lang/Void;)V" } : Jvm.MethodName) jdk_42_method_149_code (6 : Nat) (Option.none : Option Jvm.ClassFile.FieldType)).before args0 about1 = true := code_word (m := ⟨7, 4⟩) (meth := k7m4) (c := k7c4) (by decide +kernel) rfl rfl rfl (by decide +kernel)
set_option maxRecDepth 65536 in
theorem w_c4 : (Jvm.Cond.code ({ cls := "java/lang/Object", name := "<init>", desc := "()V" } : Jvm.MethodName) object_method_1_code (1 : Nat) (Option.none : Option Jvm.ClassFile.FieldType)).before args0 about1 = true := code_word (m := ⟨0, 0⟩) (meth := k0m0) (c := k0c0) (by decide +kernel) rfl rfl rfl (by decide +kernel)
set_option maxRecDepth 65536 in
theorem w_c5 : (Jvm.Cond.code ({ cls := "java/lang/StringUTF16", name := "compress", desc := "([CII)[B" } : Jvm.MethodName) jdk_52_method_16_code (6 : Nat) (Option.some (Jvm.ClassFile.FieldType.array Jvm.ClassFile.FieldType.byte))).before args0 about1 = true := code_word (m := ⟨8, 2⟩) (meth := k8m2) (c := k8c2) (by decide +kernel) rfl rfl rfl (by decide +kernel)
set_option maxRecDepth 65536 in
theorem w_c6 : (Jvm.Cond.code ({ cls := "java/lang/StringUTF16", name := "compress", desc := "([CI[BII)I" } : Jvm.MethodName) jdk_52_method_21_code (7 : Nat) (Option.some Jvm.ClassFile.FieldType.int)).before args0 about1 = true := code_word (m := ⟨8, 3⟩) (meth := k8m3) (c := k8c3) (by decide +kernel) rfl rfl rfl (by decide +kernel)
set_option maxRecDepth 65536 in
theorem w_c7 : (Jvm.Cond.code ({ cls := "java/lang/StringUTF16", name := "coderFromArrayLen", desc := "([BI)B" } : Jvm.MethodName) jdk_52_method_15_code (2 : Nat) (Option.some Jvm.ClassFile.FieldType.byte)).before args0 about1 = true := code_word (m := ⟨8, 1⟩) (meth := k8m1) (c := k8c1) (by decide +kernel) rfl rfl rfl (by decide +kernel)
set_option maxRecDepth 65536 in
theorem w_c8 : (Jvm.Cond.code ({ cls := "com/example/quittance/quittance/Money", name := "nonNegative", desc := "(Ljava/lang/String;Ljava/lang/String;)J" } : Jvm.MethodName) prog_6_method_3_code (4 : Nat) (Option.some Jvm.ClassFile.FieldType.long)).before args0 about1 = true := code_word (m := ⟨9, 1⟩) (meth := k9m1) (c := k9c1) (by decide +kernel) rfl rfl rfl (by decide +kernel)
set_option maxRecDepth 65536 in
theorem w_c9 : (Jvm.Cond.code ({ cls := "com/example/quittance/quittance/Money", name := "cents", desc := "(Ljava/lang/String;)J" } : Jvm.MethodName) prog_6_method_5_code (6 : Nat) (Option.some Jvm.ClassFile.FieldType.long)).before args0 about1 = true := code_word (m := ⟨9, 2⟩) (meth := k9m2) (c := k9c2) (by decide +kernel) rfl rfl rfl (by decide +kernel)
set_option maxRecDepth 65536 in
theorem w_c10 : (Jvm.Cond.code ({ cls := "java/lang/String", name := "length", desc := "()I" } : Jvm.MethodName) jdk_42_method_54_code (1 : Nat) (Option.some Jvm.ClassFile.FieldType.int)).before args0 about1 = true := code_word (m := ⟨7, 2⟩) (meth := k7m2) (c := k7c2) (by decide +kernel) rfl rfl rfl (by decide +kernel)
set_option maxRecDepth 65536 in
theorem w_c11 : (Jvm.Cond.code ({ cls := "java/lang/String", name := "coder", desc := "()B" } : Jvm.MethodName) jdk_42_method_152_code (1 : Nat) (Option.some Jvm.ClassFile.FieldType.byte)).before args0 about1 = true := code_word (m := ⟨7, 5⟩) (meth := k7m5) (c := k7c5) (by decide +kernel) rfl rfl rfl (by decide +kernel)
set_option maxRecDepth 65536 in
theorem w_c12 : (Jvm.Cond.code ({ cls := "java/lang/String", name := "charAt", desc := "(I)C" } : Jvm.MethodName) jdk_42_method_56_code (2 : Nat) (Option.some Jvm.ClassFile.FieldType.char)).before args0 about1 = true := code_word (m := ⟨7, 3⟩) (meth := k7m3) (c := k7c3) (by decide +kernel) rfl rfl rfl (by decide +kernel)
set_option maxRecDepth 65536 in
theorem w_c13 : (Jvm.Cond.code ({ cls := "java/lang/String", name := "isLatin1", desc := "()Z" } : Jvm.MethodName) jdk_42_method_154_code (1 : Nat) (Option.some Jvm.ClassFile.FieldType.boolean)).before args0 about1 = true := code_word (m := ⟨7, 6⟩) (meth := k7m6) (c := k7c6) (by decide +kernel) rfl rfl rfl (by decide +kernel)
set_option maxRecDepth 65536 in
theorem w_c14 : (Jvm.Cond.code ({ cls := "java/lang/StringLatin1", name := "charAt", desc := "([BI)C" } : Jvm.MethodName) jdk_43_method_2_code (2 : Nat) (Option.some Jvm.ClassFile.FieldType.char)).before args0 about1 = true := code_word (m := ⟨10, 1⟩) (meth := k10m1) (c := k10c1) (by decide +kernel) rfl rfl rfl (by decide +kernel)
set_option maxRecDepth 65536 in
theorem w_c15 : (Jvm.Cond.code ({ cls := "java/lang/String", name := "checkIndex", desc := "(II)V" } : Jvm.MethodName) jdk_42_method_155_code (2 : Nat) (Option.none : Option Jvm.ClassFile.FieldType)).before args0 about1 = true := code_word (m := ⟨7, 7⟩) (meth := k7m7) (c := k7c7) (by decide +kernel) rfl rfl rfl (by decide +kernel)
set_option maxRecDepth 65536 in
theorem w_c16 : (Jvm.Cond.code ({ cls := "jdk/internal/util/Preconditions", name := "checkIndex", desc := "(IILjava/util/function/BiFunction;)I" } : Jvm.MethodName) jdk_41_method_11_code (3 : Nat) (Option.some Jvm.ClassFile.FieldType.int)).before args0 about1 = true := code_word (m := ⟨11, 1⟩) (meth := k11m1) (c := k11c1) (by decide +kernel) rfl rfl rfl (by decide +kernel)
def codes1 : List Jvm.Cond := [Jvm.Cond.code x code maxLocals ret, Jvm.Cond.code ({ cls := "com/example/quittance/quittance/MoneyNonNegativePinLaw", name := "d", desc := "(JJ)C" } : Jvm.MethodName) method_2_code (4 : Nat) (Option.some Jvm.ClassFile.FieldType.char), Jvm.Cond.code ({ cls := "java/lang/String", name := "<init>", desc := "([C)V" } : Jvm.MethodName) jdk_42_method_3_code (2 : Nat) (Option.none : Option Jvm.ClassFile.FieldType), Jvm.Cond.code ({ cls := "java/lang/String", name := "<init>", desc := "([CIILjava/lang/Void;)V" } : Jvm.MethodName) jdk_42_method_149_code (6 : Nat) (Option.none : Option Jvm.ClassFile.FieldType), Jvm.Cond.code ({ cls := "java/lang/Object", name := "<init>", desc := "()V" } : Jvm.MethodName) object_method_1_code (1 : Nat) (Option.none : Option Jvm.ClassFile.FieldType), Jvm.Cond.code ({ cls := "java/lang/StringUTF16", name := "compress", desc := "([CII)[B" } : Jvm.MethodName) jdk_52_method_16_code (6 : Nat) (Option.some (Jvm.ClassFile.FieldType.array Jvm.ClassFile.FieldType.byte)), Jvm.Cond.code ({ cls := "java/lang/StringUTF16", name := "compress", desc := "([CI[BII)I" } : Jvm.MethodName) jdk_52_method_21_code (7 : Nat) (Option.some Jvm.ClassFile.FieldType.int), Jvm.Cond.code ({ cls := "java/lang/StringUTF16", name := "coderFromArrayLen", desc := "([BI)B" } : Jvm.MethodName) jdk_52_method_15_code (2 : Nat) (Option.some Jvm.ClassFile.FieldType.byte), Jvm.Cond.code ({ cls := "com/example/quittance/quittance/Money", name := "nonNegative", desc := "(Ljava/lang/String;Ljava/lang/String;)J" } : Jvm.MethodName) prog_6_method_3_code (4 : Nat) (Option.some Jvm.ClassFile.FieldType.long), Jvm.Cond.code ({ cls := "com/example/quittance/quittance/Money", name := "cents", desc := "(Ljava/lang/String;)J" } : Jvm.MethodName) prog_6_method_5_code (6 : Nat) (Option.some Jvm.ClassFile.FieldType.long), Jvm.Cond.code ({ cls := "java/lang/String", name := "length", desc := "()I" } : Jvm.MethodName) jdk_42_method_54_code (1 : Nat) (Option.some Jvm.ClassFile.FieldType.int), Jvm.Cond.code ({ cls := "java/lang/String", name := "coder", desc := "()B" } : Jvm.MethodName) jdk_42_method_152_code (1 : Nat) (Option.some Jvm.ClassFile.FieldType.byte), Jvm.Cond.code ({ cls := "java/lang/String", name := "charAt", desc := "(I)C" } : Jvm.MethodName) jdk_42_method_56_code (2 : Nat) (Option.some Jvm.ClassFile.FieldType.char), Jvm.Cond.code ({ cls := "java/lang/String", name := "isLatin1", desc := "()Z" } : Jvm.MethodName) jdk_42_method_154_code (1 : Nat) (Option.some Jvm.ClassFile.FieldType.boolean), Jvm.Cond.code ({ cls := "java/lang/StringLatin1", name := "charAt", desc := "([BI)C" } : Jvm.MethodName) jdk_43_method_2_code (2 : Nat) (Option.some Jvm.ClassFile.FieldType.char), Jvm.Cond.code ({ cls := "java/lang/String", name := "checkIndex", desc := "(II)V" } : Jvm.MethodName) jdk_42_method_155_code (2 : Nat) (Option.none : Option Jvm.ClassFile.FieldType), Jvm.Cond.code ({ cls := "jdk/internal/util/Preconditions", name := "checkIndex", desc := "(IILjava/util/function/BiFunction;)I" } : Jvm.MethodName) jdk_41_method_11_code (3 : Nat) (Option.some Jvm.ClassFile.FieldType.int)]
set_option maxRecDepth 65536 in
theorem codes_eq : words1.filter isCode = codes1 := rfl
theorem w_codes : ∀ c ∈ words1.filter isCode, c.before args0 about1 = true := by
  rw [codes_eq]
  intro c hc
  simp only [codes1, List.mem_cons, List.not_mem_nil, or_false] at hc
  rcases hc with rfl | rfl | rfl | rfl | rfl | rfl | rfl | rfl | rfl | rfl | rfl | rfl | rfl | rfl | rfl | rfl | rfl
  · exact w_c0
  · exact w_c1
  · exact w_c2
  · exact w_c3
  · exact w_c4
  · exact w_c5
  · exact w_c6
  · exact w_c7
  · exact w_c8
  · exact w_c9
  · exact w_c10
  · exact w_c11
  · exact w_c12
  · exact w_c13
  · exact w_c14
  · exact w_c15
  · exact w_c16
set_option maxRecDepth 65536 in
theorem w_t1 : (words1.take 24).all (fun c => isCode c || c.before args0 about1) = true := by decide +kernel
set_option maxRecDepth 65536 in
theorem w_t2 : ((words1.drop 24).take 24).all (fun c => isCode c || c.before args0 about1) = true := by decide +kernel
set_option maxRecDepth 65536 in
theorem w_t3 : (((words1.drop 24).drop 24).take 24).all (fun c => isCode c || c.before args0 about1) = true := by decide +kernel
set_option maxRecDepth 65536 in
theorem w_t4 : (((words1.drop 24).drop 24).drop 24).all (fun c => isCode c || c.before args0 about1) = true := by decide +kernel
theorem w_tables : (allAtoms (Jvm.Cond.code x code maxLocals ret :: tables_1)).before args0 about1 = true := by
  rw [allAtoms_all]
  show words1.all (fun c => c.before args0 about1) = true
  refine all_split ?_ w_codes
  rw [← List.take_append_drop 24 words1, List.all_append, w_t1, ← List.take_append_drop 24 (words1.drop 24), List.all_append, w_t2, ← List.take_append_drop 24 ((words1.drop 24).drop 24), List.all_append, w_t3, w_t4]
  rfl
set_option maxRecDepth 65536 in
theorem w_rest : rest_1_c.before args0 about1 = true := by decide +kernel
set_option maxRecDepth 65536 in
theorem w_case : (Jvm.Cond.and given_1 narrow_1).before args0 about1 = true := by decide +kernel
theorem w_applies : (headSpec (Jvm.Cond.code x code maxLocals ret :: tables_1) room_1).applies x e0.platform about1 = true :=
  (Spec.applies_iff w_frames).mpr ⟨w_running, w_runnable, w_alone, w_named, w_hears, w_ripe, w_room, w_tables⟩
theorem atStart : AtStart classFile x code maxLocals ret World_1 tables_1 room_1 Calls_1 rest_1 Pre_1 launch0 p0 e0 about1 theMethod args0 below0 :=
  ⟨lists_1, trivial, launch0.admits_env _ _ _, launch0.least_env, fairChoices_fair.cas, fairChoices_fair.clock, w_frames, w_args, w_heap, w_applies, trivial, w_rest, w_case⟩
end start1
theorem witness_1 : WitnessClaimed_1 := ⟨start1.p0, start1.e0, start1.about1, start1.theMethod, start1.args0, start1.below0, start1.atStart⟩
end Jvm.Pilot.@@N@@

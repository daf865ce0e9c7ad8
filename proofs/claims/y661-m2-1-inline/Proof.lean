import JvmDerived
import JvmDerived.Pilot.@@N@@Statement
import JvmDerived.Pilot.@@N@@Code
set_option linter.unusedVariables false
set_option linter.unusedSimpArgs false
namespace Jvm.Pilot.@@N@@
open Jvm Jvm.ClassFile Sem Op Lib Jvm.Free Jvm.Stand Jvm.LawKit Jvm.RoadKit Bundle Jvm.Pilot.@@N@@.Jvm.D
/-- from the frame g over T the run comes to its end, and P holds of what comes out -/
def Wp (p : Program) (e : Env) (below : List Frame) (P : Outcome → State → Prop) (T : State) (g : JFrame) : Prop := ∃ s₂ o, Steps p.tables e below (T.setTop g) s₂ ∧ s₂.status = .running ∧ Ended s₂ below o ∧ P o s₂
/-- where a walk stands -/
def WS (p : Program) (l : Launch) (e : Env) (R : Room) (s : State) (m : MethodId) (args : Array Value) (below : List Frame) (meth : Method) (c : Code) (Z : State) (EL : List (String × Nat)) (n0 : Nat) (own : String) (code : ByteArray) (ml : Nat) (bw : Bool) (vm : Vm) (T : State) (h : Heap) (locs : List Loc) (cells slots : Nat) : Prop :=
  Stand p l e R (s.setVm vm) m args below meth c T locs cells slots ∧ T.heap = h ∧ Z.Warmed39 (s.setVm vm).vm ∧ (s.setVm vm).vm.findClass own = some m.cls ∧ p.tables.exec = Jvm.exec ∧ c.code = code ∧ c.maxLocals = ml ∧ Fr n0 locs ∧ Old Z n0 h ∧ ((bw = false ∧ vm = s.vm) ∨ (bw = true ∧ (∃ k, s.Since vm k ∧ k ≤ h.size) ∧ CHr Z EL s.vm s.heap vm h))
/-- what a callee's payer gives: a callee that interns nothing -/
def BkN (l : Launch) (R : Room) (p : Program) (e : Env) (below : List Frame) (s : State) (args : Array Value) (y : MethodName) (len W : Nat) (as' : Array Value) (h : Heap) (n0 : Nat) (wr : List Addr) (Q : Option Value → Heap → Prop) (kc ks : Nat) : Prop := Back l R p e below s args y len W (fun B a => a = as' ∧ B.U.heap = h ∧ B.cells + kc ≤ R.cells ∧ B.slots + ks ≤ R.slots) (fun B _ v B' => ∃ L, (Fr n0 L ∧ Keep h B'.U.heap wr ∧ Q v B'.U.heap) ∧ B'.locs = B.locs ++ L ∧ B'.cells = B.cells + kc ∧ B'.slots = B.slots + ks)
/-- .. and one that may -/
def BkS (l : Launch) (R : Room) (p : Program) (e : Env) (below : List Frame) (s : State) (args : Array Value) (y : MethodName) (len W : Nat) (as' : Array Value) (h : Heap) (n0 : Nat) (wr : List Addr) (Q : Option Value → Heap → Prop) (kc ks : Nat) (Z : State) (EL : List (String × Nat)) (vm : Vm) : Prop := BackS l R p e below s args y len W (fun B a => a = as' ∧ B.U.heap = h ∧ B.cells + kc ≤ R.cells ∧ B.slots + ks ≤ R.slots) (fun B _ v B' => ∃ L, (Fr n0 L ∧ Keep h B'.U.heap wr ∧ Q v B'.U.heap) ∧ B'.locs = B.locs ++ L ∧ B'.cells = B.cells + kc ∧ B'.slots = B.slots + ks ∧ CHr Z EL vm h B'.U.vm B'.U.heap)
section OwnKit
variable {p : Program} {l : Launch} {e : Env} {R : Room} {s : State} {m : MethodId} {args : Array Value} {below : List Frame} {meth : Method} {c : Code} {Z : State} {EL : List (String × Nat)} {n0 : Nat} {own : String} {code : ByteArray} {ml : Nat} {bw : Bool} {vm : Vm} {T : State} {h : Heap} {locs : List Loc} {cells slots : Nat} {P : Outcome → State → Prop} {pc pc' : Nat} {L : Array Slot} {S : List Value} {a0 : Array Value}
theorem Wp.go {T T' : State} {g g' : JFrame} (k : Wp p e below P T' g') (st : ∀ t, Steps p.tables e below (T'.setTop g') t → Steps p.tables e below (T.setTop g) t) : Wp p e below P T g := by
  obtain ⟨s₂, o, a, r⟩ := k; exact ⟨s₂, o, st _ a, r⟩
theorem Wp.gos {T T' : State} {g g' : JFrame} (k : Wp p e below P T' g') (st : Steps p.tables e below (T.setTop g) (T'.setTop g')) : Wp p e below P T g := by
  obtain ⟨s₂, o, a, r⟩ := k; exact ⟨s₂, o, st.trans a, r⟩
abbrev wN (bw : Bool) (Z : State) (EL : List (String × Nat)) (vm : Vm) (h : Heap) (a : Addr) : Prop := bw = true → Safe Z EL vm h a
/-- a step of the tables alone -/
theorem WS.still {T' : State} (A : WS p l e R s m args below meth c Z EL n0 own code ml bw vm T h locs cells slots) (X : Stand p l e R (s.setVm vm) m args below meth c T' locs cells slots) (q : T'.heap = h) : WS p l e R s m args below meth c Z EL n0 own code ml bw vm T' h locs cells slots :=
  ⟨X, q, A.2.2⟩
theorem WS.grow {T' : State} {h' : Heap} {k n : Nat} (A : WS p l e R s m args below meth c Z EL n0 own code ml bw vm T h locs cells slots) (X : Stand p l e R (s.setVm vm) m args below meth c T' locs k n) (q : T'.heap = h') (E : Ext h h') : WS p l e R s m args below meth c Z EL n0 own code ml bw vm T' h' locs k n := by
  obtain ⟨-, -, a3, a4, a5, a6, a7, a8, a9, b⟩ := A
  refine ⟨X, q, a3, a4, a5, a6, a7, a8, a9.ext E, b.imp id fun ⟨b1, ⟨k, b2, b3⟩, b4⟩ => ⟨b1, ⟨k, b2, Nat.le_trans b3 E.1⟩, b4.trans (CHr.ext E b4.1)⟩⟩
theorem WS.kept {T' : State} {h' : Heap} {locs' : List Loc} {k n : Nat} {ws : List Addr} (A : WS p l e R s m args below meth c Z EL n0 own code ml bw vm T h locs cells slots) (X : Stand p l e R (s.setVm vm) m args below meth c T' locs' k n) (q : T'.heap = h') (N : Fr n0 locs') (K : Keep h h' ws) (hn : ∀ x ∈ ws, n0 ≤ x) (sf : bw = true → ∀ x ∈ ws, Safe Z EL vm h x) : WS p l e R s m args below meth c Z EL n0 own code ml bw vm T' h' locs' k n := by
  obtain ⟨-, -, a3, a4, a5, a6, a7, a8, a9, b⟩ := A
  refine ⟨X, q, a3, a4, a5, a6, a7, N, a9.keep K hn, b.imp id fun ⟨b1, ⟨k, b2, b3⟩, b4⟩ => ⟨b1, ⟨k, b2, Nat.le_trans b3 K.1⟩, b4.trans (CHr.keep K (sf b1) b4.1)⟩⟩
theorem WS.old (A : WS p l e R s m args below meth c Z EL n0 own code ml bw vm T h locs cells slots) : Old Z n0 h := A.2.2.2.2.2.2.2.2.1
theorem WS.sz (A : WS p l e R s m args below meth c Z EL n0 own code ml bw vm T h locs cells slots) : n0 ≤ h.size := by have q := A.old; exact q.1 ▸ q.2.1
theorem WS.hZ (A : WS p l e R s m args below meth c Z EL n0 own code ml bw vm T h locs cells slots) : Z.Warmed39 (s.setVm vm).vm := A.2.2.1
theorem WS.ch (A : WS p l e R s m args below meth c Z EL n0 own code ml bw vm T h locs cells slots) (q : bw = true) : CHr Z EL s.vm s.heap vm h := by
  obtain ⟨-, -, -, -, -, -, -, -, -, b⟩ := A
  rcases b with ⟨b, -⟩ | ⟨-, -, b⟩
  · rw [b] at q; cases q
  · exact b
theorem wd {ws : List Jvm.Cond} (hw : ∀ d ∈ ws, d.before a0 Z = true) (i : Nat) {d : Jvm.Cond} (q : ws[i]? = some d) : d.before a0 Z = true := hw _ (List.mem_of_getElem? q)
theorem Fld.ks {a : Addr} {C n d : String} {v : Value} {h h' : Heap} {ws : List Addr} (F : Fld Z h a C n d v) (K : Keep h h' ws) (q : a ∉ ws) : Fld Z h' a C n d v := F.keep K q

theorem f_iload (A : WS p l e R s m args below meth c Z EL n0 own code ml bw vm T h locs cells slots) {i : Nat} {v : Int32} (hd : decode code pc = .ok (.iload i, 2)) (hp : pc + 2 = pc') (hl : L[i]? = some (.val (.int v))) (k : Wp p e below P T (mkF m pc' L (.int v :: S))) : Wp p e below P T (mkF m pc L S) := by
  subst hp; exact k.go fun _ q => XS.iload A.1.here A.2.2.2.2.1 rfl (hb A.2.2.2.2.2.1 hd) hl q
theorem f_iloadN (A : WS p l e R s m args below meth c Z EL n0 own code ml bw vm T h locs cells slots) {i : Fin 4} {v : Int32} (hd : decode code pc = .ok (.iload_n i, 1)) (hp : pc + 1 = pc') (hl : L[i.val]? = some (.val (.int v))) (k : Wp p e below P T (mkF m pc' L (.int v :: S))) : Wp p e below P T (mkF m pc L S) := by
  subst hp; exact k.go fun _ q => XS.iloadN A.1.here A.2.2.2.2.1 rfl (hb A.2.2.2.2.2.1 hd) hl q
theorem f_istore (A : WS p l e R s m args below meth c Z EL n0 own code ml bw vm T h locs cells slots) {i : Nat} {v : Int32} {L' : Array Slot} (hd : decode code pc = .ok (.istore i, 2)) (hp : pc + 2 = pc') (hl : storeLocals L i (.int v) = some L') (k : Wp p e below P T (mkF m pc' L' S)) : Wp p e below P T (mkF m pc L (.int v :: S)) := by
  subst hp; exact k.go fun _ q => XS.istore A.1.here A.2.2.2.2.1 rfl (hb A.2.2.2.2.2.1 hd) rfl hl q
theorem f_istoreN (A : WS p l e R s m args below meth c Z EL n0 own code ml bw vm T h locs cells slots) {i : Fin 4} {v : Int32} {L' : Array Slot} (hd : decode code pc = .ok (.istore_n i, 1)) (hp : pc + 1 = pc') (hl : storeLocals L i.val (.int v) = some L') (k : Wp p e below P T (mkF m pc' L' S)) : Wp p e below P T (mkF m pc L (.int v :: S)) := by
  subst hp; exact k.go fun _ q => XS.istoreN A.1.here A.2.2.2.2.1 rfl (hb A.2.2.2.2.2.1 hd) rfl hl q
theorem f_lload (A : WS p l e R s m args below meth c Z EL n0 own code ml bw vm T h locs cells slots) {i : Nat} {v : Int64} (hd : decode code pc = .ok (.lload i, 2)) (hp : pc + 2 = pc') (hl : L[i]? = some (.val (.long v))) (k : Wp p e below P T (mkF m pc' L (.long v :: S))) : Wp p e below P T (mkF m pc L S) := by
  subst hp; exact k.go fun _ q => XS.lload A.1.here A.2.2.2.2.1 rfl (hb A.2.2.2.2.2.1 hd) hl q
theorem f_lloadN (A : WS p l e R s m args below meth c Z EL n0 own code ml bw vm T h locs cells slots) {i : Fin 4} {v : Int64} (hd : decode code pc = .ok (.lload_n i, 1)) (hp : pc + 1 = pc') (hl : L[i.val]? = some (.val (.long v))) (k : Wp p e below P T (mkF m pc' L (.long v :: S))) : Wp p e below P T (mkF m pc L S) := by
  subst hp; exact k.go fun _ q => XS.lloadN A.1.here A.2.2.2.2.1 rfl (hb A.2.2.2.2.2.1 hd) hl q
theorem f_lstore (A : WS p l e R s m args below meth c Z EL n0 own code ml bw vm T h locs cells slots) {i : Nat} {v : Int64} {L' : Array Slot} (hd : decode code pc = .ok (.lstore i, 2)) (hp : pc + 2 = pc') (hl : storeLocals L i (.long v) = some L') (k : Wp p e below P T (mkF m pc' L' S)) : Wp p e below P T (mkF m pc L (.long v :: S)) := by
  subst hp; exact k.go fun _ q => XS.lstore A.1.here A.2.2.2.2.1 rfl (hb A.2.2.2.2.2.1 hd) rfl hl q
theorem f_lstoreN (A : WS p l e R s m args below meth c Z EL n0 own code ml bw vm T h locs cells slots) {i : Fin 4} {v : Int64} {L' : Array Slot} (hd : decode code pc = .ok (.lstore_n i, 1)) (hp : pc + 1 = pc') (hl : storeLocals L i.val (.long v) = some L') (k : Wp p e below P T (mkF m pc' L' S)) : Wp p e below P T (mkF m pc L (.long v :: S)) := by
  subst hp; exact k.go fun _ q => XS.lstoreN A.1.here A.2.2.2.2.1 rfl (hb A.2.2.2.2.2.1 hd) rfl hl q
theorem f_aload (A : WS p l e R s m args below meth c Z EL n0 own code ml bw vm T h locs cells slots) {i : Nat} {v : Value} (hd : decode code pc = .ok (.aload i, 2)) (hp : pc + 2 = pc') (hl : L[i]? = some (.val v)) (hv : v.isRef = true) (k : Wp p e below P T (mkF m pc' L (v :: S))) : Wp p e below P T (mkF m pc L S) := by
  subst hp; exact k.go fun _ q => XS.aload A.1.here A.2.2.2.2.1 rfl (hb A.2.2.2.2.2.1 hd) hl hv q
theorem f_aloadN (A : WS p l e R s m args below meth c Z EL n0 own code ml bw vm T h locs cells slots) {i : Fin 4} {v : Value} (hd : decode code pc = .ok (.aload_n i, 1)) (hp : pc + 1 = pc') (hl : L[i.val]? = some (.val v)) (hv : v.isRef = true) (k : Wp p e below P T (mkF m pc' L (v :: S))) : Wp p e below P T (mkF m pc L S) := by
  subst hp; exact k.go fun _ q => XS.aloadN A.1.here A.2.2.2.2.1 rfl (hb A.2.2.2.2.2.1 hd) hl hv q
theorem f_astore (A : WS p l e R s m args below meth c Z EL n0 own code ml bw vm T h locs cells slots) {i : Nat} {v : Value} {L' : Array Slot} (hd : decode code pc = .ok (.astore i, 2)) (hp : pc + 2 = pc') (hv : v.isRef = true) (hl : storeLocals L i v = some L') (k : Wp p e below P T (mkF m pc' L' S)) : Wp p e below P T (mkF m pc L (v :: S)) := by
  subst hp; exact k.go fun _ q => XS.astore A.1.here A.2.2.2.2.1 rfl (hb A.2.2.2.2.2.1 hd) rfl hv hl q
theorem f_astoreN (A : WS p l e R s m args below meth c Z EL n0 own code ml bw vm T h locs cells slots) {i : Fin 4} {v : Value} {L' : Array Slot} (hd : decode code pc = .ok (.astore_n i, 1)) (hp : pc + 1 = pc') (hv : v.isRef = true) (hl : storeLocals L i.val v = some L') (k : Wp p e below P T (mkF m pc' L' S)) : Wp p e below P T (mkF m pc L (v :: S)) := by
  subst hp; exact k.go fun _ q => XS.astoreN A.1.here A.2.2.2.2.1 rfl (hb A.2.2.2.2.2.1 hd) rfl hv hl q
theorem f_iconst (A : WS p l e R s m args below meth c Z EL n0 own code ml bw vm T h locs cells slots) {i : Int} (hd : decode code pc = .ok (.iconst i, 1)) (hp : pc + 1 = pc') (v : Int32) (hv : Int32.ofInt i = v) (k : Wp p e below P T (mkF m pc' L (.int v :: S))) : Wp p e below P T (mkF m pc L S) := by
  subst hp hv; exact k.go fun _ q => XS.iconst A.1.here A.2.2.2.2.1 rfl (hb A.2.2.2.2.2.1 hd) q
theorem f_bipush (A : WS p l e R s m args below meth c Z EL n0 own code ml bw vm T h locs cells slots) {i : Int} (hd : decode code pc = .ok (.bipush i, 2)) (hp : pc + 2 = pc') (v : Int32) (hv : (Int8.ofInt i).toInt32 = v) (k : Wp p e below P T (mkF m pc' L (.int v :: S))) : Wp p e below P T (mkF m pc L S) := by
  subst hp hv; exact k.go fun _ q => XS.bipush A.1.here A.2.2.2.2.1 rfl (hb A.2.2.2.2.2.1 hd) q
theorem f_sipush (A : WS p l e R s m args below meth c Z EL n0 own code ml bw vm T h locs cells slots) {i : Int} (hd : decode code pc = .ok (.sipush i, 3)) (hp : pc + 3 = pc') (v : Int32) (hv : (Int16.ofInt i).toInt32 = v) (k : Wp p e below P T (mkF m pc' L (.int v :: S))) : Wp p e below P T (mkF m pc L S) := by
  subst hp hv; exact k.go fun _ q => XS.sipush A.1.here A.2.2.2.2.1 rfl (hb A.2.2.2.2.2.1 hd) q
theorem f_lconst (A : WS p l e R s m args below meth c Z EL n0 own code ml bw vm T h locs cells slots) {i : Fin 2} (hd : decode code pc = .ok (.lconst i, 1)) (hp : pc + 1 = pc') (v : Int64) (hv : Int64.ofNat i = v) (k : Wp p e below P T (mkF m pc' L (.long v :: S))) : Wp p e below P T (mkF m pc L S) := by
  subst hp hv; exact k.go fun _ q => XS.lconst A.1.here A.2.2.2.2.1 rfl (hb A.2.2.2.2.2.1 hd) q
theorem f_aconst_null (A : WS p l e R s m args below meth c Z EL n0 own code ml bw vm T h locs cells slots) (hd : decode code pc = .ok (.aconst_null, 1)) (hp : pc + 1 = pc') (k : Wp p e below P T (mkF m pc' L (.null :: S))) : Wp p e below P T (mkF m pc L S) := by
  subst hp; exact k.go fun _ q => XS.aconstNull A.1.here A.2.2.2.2.1 rfl (hb A.2.2.2.2.2.1 hd) q
theorem f_ldcI (A : WS p l e R s m args below meth c Z EL n0 own code ml bw vm T h locs cells slots) {i : Nat} {v : Int32} (hd : decode code pc = .ok (.ldc i, 2)) (hp : pc + 2 = pc') (w : (Cond.constant own i v).before a0 Z = true) (k : Wp p e below P T (mkF m pc' L (.int v :: S))) : Wp p e below P T (mkF m pc L S) := by
  subst hp; exact k.go fun t q => A.1.ldcInt A.2.2.2.2.1 A.2.2.2.1 (mvT A.hZ w) (g := mkF m pc L S) rfl (hb A.2.2.2.2.2.1 hd) t q
theorem f_ldc2J (A : WS p l e R s m args below meth c Z EL n0 own code ml bw vm T h locs cells slots) {i : Nat} {v : Int64} (hd : decode code pc = .ok (.ldc2_w i, 3)) (hp : pc + 3 = pc') (w : (Cond.constantLong own i v).before a0 Z = true) (k : Wp p e below P T (mkF m pc' L (.long v :: S))) : Wp p e below P T (mkF m pc L S) := by
  subst hp; exact k.go fun t q => A.1.ldc2Long A.2.2.2.2.1 A.2.2.2.1 (mvT A.hZ w) (g := mkF m pc L S) rfl (hb A.2.2.2.2.2.1 hd) t q
theorem f_iadd (A : WS p l e R s m args below meth c Z EL n0 own code ml bw vm T h locs cells slots) {x y : Int32} (hd : decode code pc = .ok (.iadd, 1)) (hp : pc + 1 = pc') (z : Int32) (hz : x + y = z) (k : Wp p e below P T (mkF m pc' L (.int z :: S))) : Wp p e below P T (mkF m pc L (.int y :: .int x :: S)) := by
  subst hp hz; exact k.go fun _ q => XS.iadd A.1.here A.2.2.2.2.1 rfl (hb A.2.2.2.2.2.1 hd) rfl q
theorem f_isub (A : WS p l e R s m args below meth c Z EL n0 own code ml bw vm T h locs cells slots) {x y : Int32} (hd : decode code pc = .ok (.isub, 1)) (hp : pc + 1 = pc') (z : Int32) (hz : x - y = z) (k : Wp p e below P T (mkF m pc' L (.int z :: S))) : Wp p e below P T (mkF m pc L (.int y :: .int x :: S)) := by
  subst hp hz; exact k.go fun _ q => XS.isub A.1.here A.2.2.2.2.1 rfl (hb A.2.2.2.2.2.1 hd) rfl q
theorem f_imul (A : WS p l e R s m args below meth c Z EL n0 own code ml bw vm T h locs cells slots) {x y : Int32} (hd : decode code pc = .ok (.imul, 1)) (hp : pc + 1 = pc') (z : Int32) (hz : x * y = z) (k : Wp p e below P T (mkF m pc' L (.int z :: S))) : Wp p e below P T (mkF m pc L (.int y :: .int x :: S)) := by
  subst hp hz; exact k.go fun _ q => XS.imul A.1.here A.2.2.2.2.1 rfl (hb A.2.2.2.2.2.1 hd) rfl q
theorem f_iand (A : WS p l e R s m args below meth c Z EL n0 own code ml bw vm T h locs cells slots) {x y : Int32} (hd : decode code pc = .ok (.iand, 1)) (hp : pc + 1 = pc') (z : Int32) (hz : x &&& y = z) (k : Wp p e below P T (mkF m pc' L (.int z :: S))) : Wp p e below P T (mkF m pc L (.int y :: .int x :: S)) := by
  subst hp hz; exact k.go fun _ q => XS.iand A.1.here A.2.2.2.2.1 rfl (hb A.2.2.2.2.2.1 hd) rfl q
theorem f_ior (A : WS p l e R s m args below meth c Z EL n0 own code ml bw vm T h locs cells slots) {x y : Int32} (hd : decode code pc = .ok (.ior, 1)) (hp : pc + 1 = pc') (z : Int32) (hz : x ||| y = z) (k : Wp p e below P T (mkF m pc' L (.int z :: S))) : Wp p e below P T (mkF m pc L (.int y :: .int x :: S)) := by
  subst hp hz; exact k.go fun _ q => XS.ior A.1.here A.2.2.2.2.1 rfl (hb A.2.2.2.2.2.1 hd) rfl q
theorem f_ixor (A : WS p l e R s m args below meth c Z EL n0 own code ml bw vm T h locs cells slots) {x y : Int32} (hd : decode code pc = .ok (.ixor, 1)) (hp : pc + 1 = pc') (z : Int32) (hz : x ^^^ y = z) (k : Wp p e below P T (mkF m pc' L (.int z :: S))) : Wp p e below P T (mkF m pc L (.int y :: .int x :: S)) := by
  subst hp hz; exact k.go fun _ q => XS.ixor A.1.here A.2.2.2.2.1 rfl (hb A.2.2.2.2.2.1 hd) rfl q
theorem f_ishl (A : WS p l e R s m args below meth c Z EL n0 own code ml bw vm T h locs cells slots) {x y : Int32} (hd : decode code pc = .ok (.ishl, 1)) (hp : pc + 1 = pc') (z : Int32) (hz : x <<< (y &&& 31) = z) (k : Wp p e below P T (mkF m pc' L (.int z :: S))) : Wp p e below P T (mkF m pc L (.int y :: .int x :: S)) := by
  subst hp hz; exact k.go fun _ q => XS.ishl A.1.here A.2.2.2.2.1 rfl (hb A.2.2.2.2.2.1 hd) rfl q
theorem f_ishr (A : WS p l e R s m args below meth c Z EL n0 own code ml bw vm T h locs cells slots) {x y : Int32} (hd : decode code pc = .ok (.ishr, 1)) (hp : pc + 1 = pc') (z : Int32) (hz : x >>> (y &&& 31) = z) (k : Wp p e below P T (mkF m pc' L (.int z :: S))) : Wp p e below P T (mkF m pc L (.int y :: .int x :: S)) := by
  subst hp hz; exact k.go fun _ q => XS.ishr A.1.here A.2.2.2.2.1 rfl (hb A.2.2.2.2.2.1 hd) rfl q
theorem f_iushr (A : WS p l e R s m args below meth c Z EL n0 own code ml bw vm T h locs cells slots) {x y : Int32} (hd : decode code pc = .ok (.iushr, 1)) (hp : pc + 1 = pc') (z : Int32) (hz : (x.toUInt32 >>> (y &&& 31).toUInt32).toInt32 = z) (k : Wp p e below P T (mkF m pc' L (.int z :: S))) : Wp p e below P T (mkF m pc L (.int y :: .int x :: S)) := by
  subst hp hz; exact k.go fun _ q => XS.iushr A.1.here A.2.2.2.2.1 rfl (hb A.2.2.2.2.2.1 hd) rfl q
theorem f_ladd (A : WS p l e R s m args below meth c Z EL n0 own code ml bw vm T h locs cells slots) {x y : Int64} (hd : decode code pc = .ok (.ladd, 1)) (hp : pc + 1 = pc') (z : Int64) (hz : x + y = z) (k : Wp p e below P T (mkF m pc' L (.long z :: S))) : Wp p e below P T (mkF m pc L (.long y :: .long x :: S)) := by
  subst hp hz; exact k.go fun _ q => XS.ladd A.1.here A.2.2.2.2.1 rfl (hb A.2.2.2.2.2.1 hd) rfl q
theorem f_lsub (A : WS p l e R s m args below meth c Z EL n0 own code ml bw vm T h locs cells slots) {x y : Int64} (hd : decode code pc = .ok (.lsub, 1)) (hp : pc + 1 = pc') (z : Int64) (hz : x - y = z) (k : Wp p e below P T (mkF m pc' L (.long z :: S))) : Wp p e below P T (mkF m pc L (.long y :: .long x :: S)) := by
  subst hp hz; exact k.go fun _ q => XS.lsub A.1.here A.2.2.2.2.1 rfl (hb A.2.2.2.2.2.1 hd) rfl q
theorem f_lmul (A : WS p l e R s m args below meth c Z EL n0 own code ml bw vm T h locs cells slots) {x y : Int64} (hd : decode code pc = .ok (.lmul, 1)) (hp : pc + 1 = pc') (z : Int64) (hz : x * y = z) (k : Wp p e below P T (mkF m pc' L (.long z :: S))) : Wp p e below P T (mkF m pc L (.long y :: .long x :: S)) := by
  subst hp hz; exact k.go fun _ q => XS.lmul A.1.here A.2.2.2.2.1 rfl (hb A.2.2.2.2.2.1 hd) rfl q
theorem f_land (A : WS p l e R s m args below meth c Z EL n0 own code ml bw vm T h locs cells slots) {x y : Int64} (hd : decode code pc = .ok (.land, 1)) (hp : pc + 1 = pc') (z : Int64) (hz : x &&& y = z) (k : Wp p e below P T (mkF m pc' L (.long z :: S))) : Wp p e below P T (mkF m pc L (.long y :: .long x :: S)) := by
  subst hp hz; exact k.go fun _ q => XS.land A.1.here A.2.2.2.2.1 rfl (hb A.2.2.2.2.2.1 hd) rfl q
theorem f_lor (A : WS p l e R s m args below meth c Z EL n0 own code ml bw vm T h locs cells slots) {x y : Int64} (hd : decode code pc = .ok (.lor, 1)) (hp : pc + 1 = pc') (z : Int64) (hz : x ||| y = z) (k : Wp p e below P T (mkF m pc' L (.long z :: S))) : Wp p e below P T (mkF m pc L (.long y :: .long x :: S)) := by
  subst hp hz; exact k.go fun _ q => XS.lor A.1.here A.2.2.2.2.1 rfl (hb A.2.2.2.2.2.1 hd) rfl q
theorem f_lxor (A : WS p l e R s m args below meth c Z EL n0 own code ml bw vm T h locs cells slots) {x y : Int64} (hd : decode code pc = .ok (.lxor, 1)) (hp : pc + 1 = pc') (z : Int64) (hz : x ^^^ y = z) (k : Wp p e below P T (mkF m pc' L (.long z :: S))) : Wp p e below P T (mkF m pc L (.long y :: .long x :: S)) := by
  subst hp hz; exact k.go fun _ q => XS.lxor A.1.here A.2.2.2.2.1 rfl (hb A.2.2.2.2.2.1 hd) rfl q
theorem f_lshl (A : WS p l e R s m args below meth c Z EL n0 own code ml bw vm T h locs cells slots) {x : Int64} {y : Int32} (hd : decode code pc = .ok (.lshl, 1)) (hp : pc + 1 = pc') (z : Int64) (hz : x <<< (y &&& 63).toInt64 = z) (k : Wp p e below P T (mkF m pc' L (.long z :: S))) : Wp p e below P T (mkF m pc L (.int y :: .long x :: S)) := by
  subst hp hz; exact k.go fun _ q => XS.lshl A.1.here A.2.2.2.2.1 rfl (hb A.2.2.2.2.2.1 hd) rfl q
theorem f_lshr (A : WS p l e R s m args below meth c Z EL n0 own code ml bw vm T h locs cells slots) {x : Int64} {y : Int32} (hd : decode code pc = .ok (.lshr, 1)) (hp : pc + 1 = pc') (z : Int64) (hz : x >>> (y &&& 63).toInt64 = z) (k : Wp p e below P T (mkF m pc' L (.long z :: S))) : Wp p e below P T (mkF m pc L (.int y :: .long x :: S)) := by
  subst hp hz; exact k.go fun _ q => XS.lshr A.1.here A.2.2.2.2.1 rfl (hb A.2.2.2.2.2.1 hd) rfl q
theorem f_lushr (A : WS p l e R s m args below meth c Z EL n0 own code ml bw vm T h locs cells slots) {x : Int64} {y : Int32} (hd : decode code pc = .ok (.lushr, 1)) (hp : pc + 1 = pc') (z : Int64) (hz : (x.toUInt64 >>> (y &&& 0x3f).toInt64.toUInt64).toInt64 = z) (k : Wp p e below P T (mkF m pc' L (.long z :: S))) : Wp p e below P T (mkF m pc L (.int y :: .long x :: S)) := by
  subst hp hz; exact k.go fun _ q => XS.lushr A.1.here A.2.2.2.2.1 rfl (hb A.2.2.2.2.2.1 hd) rfl q
theorem f_idiv (A : WS p l e R s m args below meth c Z EL n0 own code ml bw vm T h locs cells slots) {x y : Int32} (hd : decode code pc = .ok (.idiv, 1)) (hp : pc + 1 = pc') (hy : y ≠ 0) (z : Int32) (hz : x / y = z) (k : Wp p e below P T (mkF m pc' L (.int z :: S))) : Wp p e below P T (mkF m pc L (.int y :: .int x :: S)) := by
  subst hp hz; exact k.go fun _ q => XS.idiv A.1.here A.2.2.2.2.1 rfl (hb A.2.2.2.2.2.1 hd) rfl hy q
theorem f_ldiv (A : WS p l e R s m args below meth c Z EL n0 own code ml bw vm T h locs cells slots) {x y : Int64} (hd : decode code pc = .ok (.ldiv, 1)) (hp : pc + 1 = pc') (hy : y ≠ 0) (z : Int64) (hz : x / y = z) (k : Wp p e below P T (mkF m pc' L (.long z :: S))) : Wp p e below P T (mkF m pc L (.long y :: .long x :: S)) := by
  subst hp hz; exact k.go fun _ q => XS.ldiv A.1.here A.2.2.2.2.1 rfl (hb A.2.2.2.2.2.1 hd) rfl hy q
theorem f_irem (A : WS p l e R s m args below meth c Z EL n0 own code ml bw vm T h locs cells slots) {x y : Int32} (hd : decode code pc = .ok (.irem, 1)) (hp : pc + 1 = pc') (hy : y ≠ 0) (z : Int32) (hz : x % y = z) (k : Wp p e below P T (mkF m pc' L (.int z :: S))) : Wp p e below P T (mkF m pc L (.int y :: .int x :: S)) := by
  subst hp hz; exact k.go fun _ q => iremM A.1 A.2.2.2.2.1 rfl (hb A.2.2.2.2.2.1 hd) rfl hy q
theorem f_lrem (A : WS p l e R s m args below meth c Z EL n0 own code ml bw vm T h locs cells slots) {x y : Int64} (hd : decode code pc = .ok (.lrem, 1)) (hp : pc + 1 = pc') (hy : y ≠ 0) (z : Int64) (hz : x % y = z) (k : Wp p e below P T (mkF m pc' L (.long z :: S))) : Wp p e below P T (mkF m pc L (.long y :: .long x :: S)) := by
  subst hp hz; exact k.go fun _ q => XS.lrem A.1.here A.2.2.2.2.1 rfl (hb A.2.2.2.2.2.1 hd) rfl hy (by rw [lrem_mod]; exact q)
theorem f_ineg (A : WS p l e R s m args below meth c Z EL n0 own code ml bw vm T h locs cells slots) {x : Int32} (hd : decode code pc = .ok (.ineg, 1)) (hp : pc + 1 = pc') (z : Int32) (hz : -x = z) (k : Wp p e below P T (mkF m pc' L (.int z :: S))) : Wp p e below P T (mkF m pc L (.int x :: S)) := by
  subst hp hz; exact k.go fun _ q => XS.ineg A.1.here A.2.2.2.2.1 rfl (hb A.2.2.2.2.2.1 hd) rfl q
theorem f_lneg (A : WS p l e R s m args below meth c Z EL n0 own code ml bw vm T h locs cells slots) {x : Int64} (hd : decode code pc = .ok (.lneg, 1)) (hp : pc + 1 = pc') (z : Int64) (hz : -x = z) (k : Wp p e below P T (mkF m pc' L (.long z :: S))) : Wp p e below P T (mkF m pc L (.long x :: S)) := by
  subst hp hz; exact k.go fun _ q => XS.lneg A.1.here A.2.2.2.2.1 rfl (hb A.2.2.2.2.2.1 hd) rfl q
theorem f_i2l (A : WS p l e R s m args below meth c Z EL n0 own code ml bw vm T h locs cells slots) {x : Int32} (hd : decode code pc = .ok (.i2l, 1)) (hp : pc + 1 = pc') (z : Int64) (hz : x.toInt64 = z) (k : Wp p e below P T (mkF m pc' L (.long z :: S))) : Wp p e below P T (mkF m pc L (.int x :: S)) := by
  subst hp hz; exact k.go fun _ q => XS.i2l A.1.here A.2.2.2.2.1 rfl (hb A.2.2.2.2.2.1 hd) rfl q
theorem f_l2i (A : WS p l e R s m args below meth c Z EL n0 own code ml bw vm T h locs cells slots) {x : Int64} (hd : decode code pc = .ok (.l2i, 1)) (hp : pc + 1 = pc') (z : Int32) (hz : x.toInt32 = z) (k : Wp p e below P T (mkF m pc' L (.int z :: S))) : Wp p e below P T (mkF m pc L (.long x :: S)) := by
  subst hp hz; exact k.go fun _ q => XS.l2i A.1.here A.2.2.2.2.1 rfl (hb A.2.2.2.2.2.1 hd) rfl q
theorem f_i2b (A : WS p l e R s m args below meth c Z EL n0 own code ml bw vm T h locs cells slots) {x : Int32} (hd : decode code pc = .ok (.i2b, 1)) (hp : pc + 1 = pc') (z : Int32) (hz : x.toInt8.toInt32 = z) (k : Wp p e below P T (mkF m pc' L (.int z :: S))) : Wp p e below P T (mkF m pc L (.int x :: S)) := by
  subst hp hz; exact k.go fun _ q => XS.i2b A.1.here A.2.2.2.2.1 rfl (hb A.2.2.2.2.2.1 hd) rfl q
theorem f_i2c (A : WS p l e R s m args below meth c Z EL n0 own code ml bw vm T h locs cells slots) {x : Int32} (hd : decode code pc = .ok (.i2c, 1)) (hp : pc + 1 = pc') (z : Int32) (hz : x.toUInt32.toUInt16.toUInt32.toInt32 = z) (k : Wp p e below P T (mkF m pc' L (.int z :: S))) : Wp p e below P T (mkF m pc L (.int x :: S)) := by
  subst hp hz; exact k.go fun _ q => XS.i2c A.1.here A.2.2.2.2.1 rfl (hb A.2.2.2.2.2.1 hd) rfl q
theorem f_i2s (A : WS p l e R s m args below meth c Z EL n0 own code ml bw vm T h locs cells slots) {x : Int32} (hd : decode code pc = .ok (.i2s, 1)) (hp : pc + 1 = pc') (z : Int32) (hz : x.toInt16.toInt32 = z) (k : Wp p e below P T (mkF m pc' L (.int z :: S))) : Wp p e below P T (mkF m pc L (.int x :: S)) := by
  subst hp hz; exact k.go fun _ q => XS.i2s A.1.here A.2.2.2.2.1 rfl (hb A.2.2.2.2.2.1 hd) rfl q
theorem f_lcmp (A : WS p l e R s m args below meth c Z EL n0 own code ml bw vm T h locs cells slots) {x y : Int64} (hd : decode code pc = .ok (.lcmp, 1)) (hp : pc + 1 = pc') (z : Int32) (hz : lcmpW x y = z) (k : Wp p e below P T (mkF m pc' L (.int z :: S))) : Wp p e below P T (mkF m pc L (.long y :: .long x :: S)) := by
  subst hp hz; exact k.go fun _ q => XS.lcmp A.1.here A.2.2.2.2.1 rfl (hb A.2.2.2.2.2.1 hd) rfl q
theorem f_iinc (A : WS p l e R s m args below meth c Z EL n0 own code ml bw vm T h locs cells slots) {i : Nat} {d : Int} {x : Int32} {L' : Array Slot} (hd : decode code pc = .ok (.iinc i d, 3)) (hp : pc + 3 = pc') (hl : L[i]? = some (.val (.int x))) (z : Int32) (hz : x + Int32.ofInt d = z) (hs : storeLocals L i (.int z) = some L') (k : Wp p e below P T (mkF m pc' L' S)) : Wp p e below P T (mkF m pc L S) := by
  subst hp hz; exact k.go fun _ q => XS.iinc A.1.here A.2.2.2.2.1 rfl (hb A.2.2.2.2.2.1 hd) hl hs q
theorem f_dup (A : WS p l e R s m args below meth c Z EL n0 own code ml bw vm T h locs cells slots) {x : Value} (hd : decode code pc = .ok (.dup, 1)) (hp : pc + 1 = pc') (hc : x.category = 1) (k : Wp p e below P T (mkF m pc' L (x :: x :: S))) : Wp p e below P T (mkF m pc L (x :: S)) := by
  subst hp; exact k.go fun _ q => XS.dup A.1.here A.2.2.2.2.1 rfl (hb A.2.2.2.2.2.1 hd) rfl hc q
theorem f_pop (A : WS p l e R s m args below meth c Z EL n0 own code ml bw vm T h locs cells slots) {x : Value} (hd : decode code pc = .ok (.pop, 1)) (hp : pc + 1 = pc') (hc : x.category = 1) (k : Wp p e below P T (mkF m pc' L S)) : Wp p e below P T (mkF m pc L (x :: S)) := by
  subst hp; exact k.go fun _ q => XS.pop A.1.here A.2.2.2.2.1 rfl (hb A.2.2.2.2.2.1 hd) rfl hc q
theorem f_dup_x1 (A : WS p l e R s m args below meth c Z EL n0 own code ml bw vm T h locs cells slots) {x y : Value} (hd : decode code pc = .ok (.dup_x1, 1)) (hp : pc + 1 = pc') (hc : x.category = 1) (hc' : y.category = 1) (k : Wp p e below P T (mkF m pc' L (x :: y :: x :: S))) : Wp p e below P T (mkF m pc L (x :: y :: S)) := by
  subst hp; exact k.go fun _ q => XS.dupX1 A.1.here A.2.2.2.2.1 rfl (hb A.2.2.2.2.2.1 hd) rfl hc hc' q
theorem f_goto (A : WS p l e R s m args below meth c Z EL n0 own code ml bw vm T h locs cells slots) {o : Int} (hd : decode code pc = .ok (.goto o, 3)) (ho : 0 ≤ (pc : Int) + o) (hp : ((pc : Int) + o).toNat = pc') (k : Wp p e below P T (mkF m pc' L S)) : Wp p e below P T (mkF m pc L S) := by
  exact k.go fun _ q => XS.goto A.1.here A.2.2.2.2.1 rfl (pc0 := pc) rfl (hb A.2.2.2.2.2.1 hd) ho hp q
theorem f_ifY (A : WS p l e R s m args below meth c Z EL n0 own code ml bw vm T h locs cells slots) {cd : ClassFile.Cond} {o : Int} {x : Int32} (hd : decode code pc = .ok (.ifCond cd o, 3)) (hc : ifCond.holds cd x = true) (ho : 0 ≤ (pc : Int) + o) (hp : ((pc : Int) + o).toNat = pc') (k : Wp p e below P T (mkF m pc' L S)) : Wp p e below P T (mkF m pc L (.int x :: S)) := by
  exact k.go fun _ q => XS.ifYes A.1.here A.2.2.2.2.1 rfl (pc0 := pc) rfl (hb A.2.2.2.2.2.1 hd) rfl hc ho hp q
theorem f_ifN (A : WS p l e R s m args below meth c Z EL n0 own code ml bw vm T h locs cells slots) {cd : ClassFile.Cond} {o : Int} {x : Int32} (hd : decode code pc = .ok (.ifCond cd o, 3)) (hc : ifCond.holds cd x = false) (hp : pc + 3 = pc') (k : Wp p e below P T (mkF m pc' L S)) : Wp p e below P T (mkF m pc L (.int x :: S)) := by
  subst hp; exact k.go fun _ q => XS.ifNo A.1.here A.2.2.2.2.1 rfl (hb A.2.2.2.2.2.1 hd) rfl hc q
theorem f_icY (A : WS p l e R s m args below meth c Z EL n0 own code ml bw vm T h locs cells slots) {cd : ClassFile.Cond} {o : Int} {x y : Int32} (hd : decode code pc = .ok (.if_icmp cd o, 3)) (hc : if_icmp.holds cd x y = true) (ho : 0 ≤ (pc : Int) + o) (hp : ((pc : Int) + o).toNat = pc') (k : Wp p e below P T (mkF m pc' L S)) : Wp p e below P T (mkF m pc L (.int y :: .int x :: S)) := by
  exact k.go fun _ q => XS.icmpYes A.1.here A.2.2.2.2.1 rfl (pc0 := pc) rfl (hb A.2.2.2.2.2.1 hd) rfl hc ho hp q
theorem f_icN (A : WS p l e R s m args below meth c Z EL n0 own code ml bw vm T h locs cells slots) {cd : ClassFile.Cond} {o : Int} {x y : Int32} (hd : decode code pc = .ok (.if_icmp cd o, 3)) (hc : if_icmp.holds cd x y = false) (hp : pc + 3 = pc') (k : Wp p e below P T (mkF m pc' L S)) : Wp p e below P T (mkF m pc L (.int y :: .int x :: S)) := by
  subst hp; exact k.go fun _ q => XS.icmpNo A.1.here A.2.2.2.2.1 rfl (hb A.2.2.2.2.2.1 hd) rfl hc q
theorem f_nullY (A : WS p l e R s m args below meth c Z EL n0 own code ml bw vm T h locs cells slots) {o : Int} (hd : decode code pc = .ok (.ifnull o, 3)) (ho : 0 ≤ (pc : Int) + o) (hp : ((pc : Int) + o).toNat = pc') (k : Wp p e below P T (mkF m pc' L S)) : Wp p e below P T (mkF m pc L (.null :: S)) := by
  exact k.go fun _ q => XS.ifnullYes A.1.here A.2.2.2.2.1 rfl (pc0 := pc) rfl (hb A.2.2.2.2.2.1 hd) rfl ho hp q
theorem f_nullN (A : WS p l e R s m args below meth c Z EL n0 own code ml bw vm T h locs cells slots) {o : Int} {b : Addr} (hd : decode code pc = .ok (.ifnull o, 3)) (hp : pc + 3 = pc') (k : Wp p e below P T (mkF m pc' L S)) : Wp p e below P T (mkF m pc L (.ref b :: S)) := by
  subst hp; exact k.go fun _ q => XS.ifnullNo A.1.here A.2.2.2.2.1 rfl (hb A.2.2.2.2.2.1 hd) rfl q
theorem f_nonY (A : WS p l e R s m args below meth c Z EL n0 own code ml bw vm T h locs cells slots) {o : Int} {b : Addr} (hd : decode code pc = .ok (.ifnonnull o, 3)) (ho : 0 ≤ (pc : Int) + o) (hp : ((pc : Int) + o).toNat = pc') (k : Wp p e below P T (mkF m pc' L S)) : Wp p e below P T (mkF m pc L (.ref b :: S)) := by
  exact k.go fun _ q => XS.ifnonnullYes A.1.here A.2.2.2.2.1 rfl (pc0 := pc) rfl (hb A.2.2.2.2.2.1 hd) rfl ho hp q
theorem f_nonN (A : WS p l e R s m args below meth c Z EL n0 own code ml bw vm T h locs cells slots) {o : Int} (hd : decode code pc = .ok (.ifnonnull o, 3)) (hp : pc + 3 = pc') (k : Wp p e below P T (mkF m pc' L S)) : Wp p e below P T (mkF m pc L (.null :: S)) := by
  subst hp; exact k.go fun _ q => XS.ifnonnullNo A.1.here A.2.2.2.2.1 rfl (hb A.2.2.2.2.2.1 hd) rfl q
theorem f_acmp (A : WS p l e R s m args below meth c Z EL n0 own code ml bw vm T h locs cells slots) {cd : ACond} {o : Int} {x y : Value} (h1 : x.isRef = true) (h2 : y.isRef = true) (hd : decode code pc = .ok (.if_acmp cd o, 3)) (same : Bool) (hq : decide (x = y) = same) (ho : 0 ≤ (pc : Int) + o) (hp : pc' = if acV cd same = true then ((pc : Int) + o).toNat else pc + 3) (k : Wp p e below P T (mkF m pc' L S)) : Wp p e below P T (mkF m pc L (y :: x :: S)) := by
  exact k.go fun _ q => Jvm.RoadKit.acmp A.1 A.2.2.2.2.1 rfl h1 h2 (pc0 := pc) rfl (hb A.2.2.2.2.2.1 hd) rfl hq ho hp q
theorem f_new (A : WS p l e R s m args below meth c Z EL n0 own code ml bw vm T h locs cells slots) {C : String} {i n : Nat} (hd : decode code pc = .ok (.new i, 3)) (hp : pc + 3 = pc') (w : (Cond.classLink own i C).before a0 Z = true) (wi : (Cond.instantiable C n).before a0 Z = true) (wz : (Cond.initialized C).before a0 Z = true) (hc : cells + 1 ≤ R.cells) (hl : slots + n ≤ R.slots)
    (k : ∀ (a : Addr) (T' : State) (h' : Heap), a = h.size → WS p l e R s m args below meth c Z EL n0 own code ml bw vm T' h' locs (cells + 1) (slots + n) → Ext h h' → Exa Z h' a C → (∀ {O nm d : String} {ty : FieldType}, Laid Z a0 C O nm d → parseFieldDescriptor d = some ty → Fld Z h' a O nm d (defaultValue ty)) → Wp p e below P T' (mkF m pc' L (.ref a :: S))) : Wp p e below P T (mkF m pc L S) := by
  subst hp
  obtain ⟨T', h', X', q, E, F, D, -, st⟩ := newO A.1 A.2.2.2.2.1 A.hZ A.2.2.2.1 w wi wz A.2.1 (g := mkF m pc L S) rfl (hb A.2.2.2.2.2.1 hd) hc hl
  exact (k _ T' h' rfl (A.grow X' q E) E F D).go st
theorem f_newP (A : WS p l e R s m args below meth c Z EL n0 own code ml bw vm T h locs cells slots) {aty : ArrayType} {z : Int32} (cap : Nat) (hd : decode code pc = .ok (.newarray aty, 2)) (hp : pc + 2 = pc') (w : (Cond.arrayClass (newarray.typeOf aty)).before a0 Z = true) (hn : ¬ z < 0) (hcap : z.toNatClampNeg ≤ cap) (hb8 : cap * 8 ≤ 536870912) (hc : cells + 1 ≤ R.cells) (hl : slots + cap ≤ R.slots) {ad : String} (had : "[" ++ (newarray.typeOf aty).toString = ad)
    (k : ∀ (a : Addr) (T' : State) (h' : Heap) (kA : ClassId), a = h.size → WS p l e R s m args below meth c Z EL n0 own code ml bw vm T' h' locs (cells + 1) (slots + cap) → Ext h h' → Arv Z h' a kA (newarray.typeOf aty) z [] (defaultValue (newarray.typeOf aty)) → Exa Z h' a ad → Wp p e below P T' (mkF m pc' L (.ref a :: S))) : Wp p e below P T (mkF m pc L (.int z :: S)) := by
  subst hp
  obtain ⟨T', h', kA, X', q, E, F, G, st⟩ := newPE A.1 A.2.2.2.2.1 A.hZ w A.2.1 (g := mkF m pc L (.int z :: S)) rfl (hb A.2.2.2.2.2.1 hd) rfl hn hcap hb8 hc hl had
  exact (k _ T' h' kA rfl (A.grow X' q E) E (Arv.new F hn) G).go st
theorem f_getF (A : WS p l e R s m args below meth c Z EL n0 own code ml bw vm T h locs cells slots) {R0 O n d host : String} {i : Nat} {a : Addr} {v : Value} (hd : decode code pc = .ok (.getfield i, 3)) (hp : pc + 3 = pc') (w : (Cond.fieldLink own i R0 n d).before a0 Z = true ∨ (Cond.fieldLinkNest own i R0 n d host).before a0 Z = true) (via : Via Z R0 O n d) (F : Fld Z h a O n d v)
    (k : ∀ (T' : State), WS p l e R s m args below meth c Z EL n0 own code ml bw vm T' h locs cells slots → Wp p e below P T' (mkF m pc' L (v :: S))) : Wp p e below P T (mkF m pc L (.ref a :: S)) := by
  subst hp
  obtain ⟨T', X', q, st⟩ := getF A.1 A.2.2.2.2.1 A.hZ A.2.2.2.1 w via A.2.1 F (g := mkF m pc L (.ref a :: S)) rfl rfl (hb A.2.2.2.2.2.1 hd)
  exact (k T' (A.still X' q)).go st
theorem f_getS (A : WS p l e R s m args below meth c Z EL n0 own code ml bw vm T h locs cells slots) {R0 O n d host : String} {i : Nat} {v : Value} (hd : decode code pc = .ok (.getstatic i, 3)) (hp : pc + 3 = pc') (w : (Cond.fieldLink own i R0 n d).before a0 Z = true ∨ (Cond.fieldLinkNest own i R0 n d host).before a0 Z = true) (via : Via Z R0 O n d) (F : Sta Z Z.heap O n d v)
    (k : ∀ (T' : State), WS p l e R s m args below meth c Z EL n0 own code ml bw vm T' h locs cells slots → Wp p e below P T' (mkF m pc' L (v :: S))) : Wp p e below P T (mkF m pc L S) := by
  subst hp
  obtain ⟨T', X', q, st⟩ := getS2 A.1 A.2.2.2.2.1 A.hZ A.2.2.2.1 w via A.2.1 (F.ext A.old.2) (g := mkF m pc L S) rfl (hb A.2.2.2.2.2.1 hd)
  exact (k T' (A.still X' q)).go st
theorem f_putF (A : WS p l e R s m args below meth c Z EL n0 own code ml bw vm T h locs cells slots) {R0 O n d C : String} {i kk : Nat} {ty : FieldType} {a : Addr} {v old : Value} (v' : Value) (hd : decode code pc = .ok (.putfield i, 3)) (hp : pc + 3 = pc') (w : (Cond.fieldLink own i R0 n d).before a0 Z = true) (via : Via Z R0 O n d) (F : Fld Z h a O n d old) (E : Exa Z h a C)
    (wl : (Cond.lays C O n d).before a0 Z = true ∨ ((Cond.laysFinal C O n d).before a0 Z = true ∧ own = O ∧ meth.name = "<init>")) (wi : (Cond.instantiable C kk).before a0 Z = true) (hty : parseFieldDescriptor d = some ty) (hn : narrow ty v = v') (hf : fits ty v' = true) (ga : n0 ≤ a) (sf : bw = true → Safe Z EL vm h a)
    (k : ∀ (T' : State) (h' : Heap), WS p l e R s m args below meth c Z EL n0 own code ml bw vm T' h' (locs ++ [⟨a, Jvm.RoadKit.slotOf Z O n d⟩]) cells slots → Wr h h' a (Jvm.RoadKit.slotOf Z O n d) v' → Keep h h' [a] → Exa Z h' a C → Fld Z h' a O n d v' → Wp p e below P T' (mkF m pc' L S)) : Wp p e below P T (mkF m pc L (v :: .ref a :: S)) := by
  subst hp
  obtain ⟨T', h', X', q, W, st⟩ := putFN A.1 A.2.2.2.2.1 A.hZ A.2.2.2.1 w via A.2.1 F E wl wi hty hn hf (g := mkF m pc L (v :: .ref a :: S)) rfl rfl (hb A.2.2.2.2.2.1 hd)
  exact (k T' h' (A.kept X' q (Fr.snoc X' A.2.2.2.2.2.2.2.1 ga) (Keep.of_wr W) (allS ga all0) (fun b => sfS (sf b) sf0)) W (Keep.of_wr W) (E.wr W) (F.same W)).go st
theorem f_castore (A : WS p l e R s m args below meth c Z EL n0 own code ml bw vm T h locs cells slots) {a : Addr} {kA : ClassId} {z j x : Int32} {vs vs' : List Value} {dv : Value} (hd : decode code pc = .ok (.castore, 1)) (hp : pc + 1 = pc') (F : Arv Z h a kA .char z vs dv) (hj : ¬ j < 0 ∧ j < z) (i : Nat) (hi : j.toNatClampNeg = i) (hl : i < vs.length) (v : Int32) (hv : nar .char x = v) (hs : vs.set i (.int v) = vs') (ga : n0 ≤ a) (sf : bw = true → Safe Z EL vm h a)
    (k : ∀ (T' : State) (h' : Heap), WS p l e R s m args below meth c Z EL n0 own code ml bw vm T' h' (locs ++ [⟨a, j.toNatClampNeg⟩]) cells slots → Keep h h' [a] → Arv Z h' a kA .char z vs' dv → Wp p e below P T' (mkF m pc' L S)) : Wp p e below P T (mkF m pc L (.int x :: .int j :: .ref a :: S)) := by
  subst hp hs hv
  obtain ⟨cl, Ar, q1, Sz, q3, H, G⟩ := F
  obtain ⟨T', h', X', q, W, st⟩ := stC A.1 A.2.2.2.2.1 A.hZ A.2.1 Ar (j := j) (inb_of Sz hj) (g := mkF m pc L (.int x :: .int j :: .ref a :: S)) rfl rfl (hb A.2.2.2.2.2.1 hd)
  exact (k T' h' (A.kept X' q (Fr.snoc X' A.2.2.2.2.2.2.2.1 ga) (Keep.of_wr W) (allS ga all0) (fun b => sfS (sf b) sf0)) (Keep.of_wr W) (Arv.set Ar q1 Sz q3 H G (fits_nar_char x) W i hi hl)).go st
theorem f_bastore (A : WS p l e R s m args below meth c Z EL n0 own code ml bw vm T h locs cells slots) {a : Addr} {kA : ClassId} {z j x : Int32} {vs vs' : List Value} {dv : Value} (hd : decode code pc = .ok (.bastore, 1)) (hp : pc + 1 = pc') (F : Arv Z h a kA .byte z vs dv) (hj : ¬ j < 0 ∧ j < z) (i : Nat) (hi : j.toNatClampNeg = i) (hl : i < vs.length) (v : Int32) (hv : x.toInt8.toInt32 = v) (hs : vs.set i (.int v) = vs') (ga : n0 ≤ a) (sf : bw = true → Safe Z EL vm h a)
    (k : ∀ (T' : State) (h' : Heap), WS p l e R s m args below meth c Z EL n0 own code ml bw vm T' h' (locs ++ [⟨a, j.toNatClampNeg⟩]) cells slots → Keep h h' [a] → Arv Z h' a kA .byte z vs' dv → Wp p e below P T' (mkF m pc' L S)) : Wp p e below P T (mkF m pc L (.int x :: .int j :: .ref a :: S)) := by
  subst hp hs hv
  obtain ⟨cl, Ar, q1, Sz, q3, H, G⟩ := F
  obtain ⟨T', h', X', q, W, st⟩ := stB A.1 A.2.2.2.2.1 A.hZ A.2.1 Ar (j := j) (inb_of Sz hj) (g := mkF m pc L (.int x :: .int j :: .ref a :: S)) rfl rfl (hb A.2.2.2.2.2.1 hd)
  exact (k T' h' (A.kept X' q (Fr.snoc X' A.2.2.2.2.2.2.2.1 ga) (Keep.of_wr W) (allS ga all0) (fun b => sfS (sf b) sf0)) (Keep.of_wr W) (Arv.set Ar q1 Sz q3 H G (fits_nar_byte x) W i hi hl)).go st
theorem f_iastore (A : WS p l e R s m args below meth c Z EL n0 own code ml bw vm T h locs cells slots) {a : Addr} {kA : ClassId} {z j x : Int32} {vs vs' : List Value} {dv : Value} (hd : decode code pc = .ok (.iastore, 1)) (hp : pc + 1 = pc') (F : Arv Z h a kA .int z vs dv) (hj : ¬ j < 0 ∧ j < z) (i : Nat) (hi : j.toNatClampNeg = i) (hl : i < vs.length) (v : Int32) (hv : x = v) (hs : vs.set i (.int v) = vs') (ga : n0 ≤ a) (sf : bw = true → Safe Z EL vm h a)
    (k : ∀ (T' : State) (h' : Heap), WS p l e R s m args below meth c Z EL n0 own code ml bw vm T' h' (locs ++ [⟨a, j.toNatClampNeg⟩]) cells slots → Keep h h' [a] → Arv Z h' a kA .int z vs' dv → Wp p e below P T' (mkF m pc' L S)) : Wp p e below P T (mkF m pc L (.int x :: .int j :: .ref a :: S)) := by
  subst hp hs hv
  obtain ⟨cl, Ar, q1, Sz, q3, H, G⟩ := F
  obtain ⟨T', h', X', q, W, st⟩ := stI A.1 A.2.2.2.2.1 A.hZ A.2.1 Ar (j := j) (inb_of Sz hj) (g := mkF m pc L (.int x :: .int j :: .ref a :: S)) rfl rfl (hb A.2.2.2.2.2.1 hd)
  exact (k T' h' (A.kept X' q (Fr.snoc X' A.2.2.2.2.2.2.2.1 ga) (Keep.of_wr W) (allS ga all0) (fun b => sfS (sf b) sf0)) (Keep.of_wr W) (Arv.set Ar q1 Sz q3 H G rfl W i hi hl)).go st
theorem f_caload (A : WS p l e R s m args below meth c Z EL n0 own code ml bw vm T h locs cells slots) {a : Addr} {kA : ClassId} {z j : Int32} {vs : List Value} {dv v : Value} (hd : decode code pc = .ok (.caload, 1)) (hp : pc + 1 = pc') (F : Arv Z h a kA .char z vs dv) (hj : ¬ j < 0 ∧ j < z) (hv : vs.getD j.toNatClampNeg dv = v) (k : Wp p e below P T (mkF m pc' L (v :: S))) : Wp p e below P T (mkF m pc L (.int j :: .ref a :: S)) := by
  subst hp
  obtain ⟨cl, Ar, q1, Sz, q3, H, G⟩ := F
  exact k.go fun t q => A.1.caload A.2.2.2.2.1 (j := j) (v := v) (by rw [A.2.1]; exact Ar.1) (State.isArrayOf_alike A.hZ.alike Ar.2.1) Ar.2.2 (inb_of Sz hj) (H.at (inb_of Sz hj) hv) (g := mkF m pc L (.int j :: .ref a :: S)) rfl rfl (hb A.2.2.2.2.2.1 hd) t q
theorem f_baload (A : WS p l e R s m args below meth c Z EL n0 own code ml bw vm T h locs cells slots) {a : Addr} {kA : ClassId} {z j : Int32} {vs : List Value} {dv v : Value} (hd : decode code pc = .ok (.baload, 1)) (hp : pc + 1 = pc') (F : Arv Z h a kA .byte z vs dv) (hj : ¬ j < 0 ∧ j < z) (hv : vs.getD j.toNatClampNeg dv = v) (k : Wp p e below P T (mkF m pc' L (v :: S))) : Wp p e below P T (mkF m pc L (.int j :: .ref a :: S)) := by
  subst hp
  obtain ⟨cl, Ar, q1, Sz, q3, H, G⟩ := F
  exact k.go fun t q => A.1.baloadBytes A.2.2.2.2.1 (j := j) (v := v) (by rw [A.2.1]; exact Ar.1) (State.isArrayOf_alike A.hZ.alike Ar.2.1) Ar.2.2 (inb_of Sz hj) (H.at (inb_of Sz hj) hv) (g := mkF m pc L (.int j :: .ref a :: S)) rfl rfl (hb A.2.2.2.2.2.1 hd) t q
theorem f_iaload (A : WS p l e R s m args below meth c Z EL n0 own code ml bw vm T h locs cells slots) {a : Addr} {kA : ClassId} {z j : Int32} {vs : List Value} {dv v : Value} (hd : decode code pc = .ok (.iaload, 1)) (hp : pc + 1 = pc') (F : Arv Z h a kA .int z vs dv) (hj : ¬ j < 0 ∧ j < z) (hv : vs.getD j.toNatClampNeg dv = v) (k : Wp p e below P T (mkF m pc' L (v :: S))) : Wp p e below P T (mkF m pc L (.int j :: .ref a :: S)) := by
  subst hp
  obtain ⟨cl, Ar, q1, Sz, q3, H, G⟩ := F
  exact k.go fun t q => A.1.iaload A.2.2.2.2.1 (j := j) (v := v) (by rw [A.2.1]; exact Ar.1) (State.isArrayOf_alike A.hZ.alike Ar.2.1) Ar.2.2 (inb_of Sz hj) (H.at (inb_of Sz hj) hv) (g := mkF m pc L (.int j :: .ref a :: S)) rfl rfl (hb A.2.2.2.2.2.1 hd) t q
theorem f_aaload (A : WS p l e R s m args below meth c Z EL n0 own code ml bw vm T h locs cells slots) {a : Addr} {kA : ClassId} {z j : Int32} {vs : List Value} {dv v : Value} {ty : FieldType} (hd : decode code pc = .ok (.aaload, 1)) (hp : pc + 1 = pc') (F : Arv Z h a kA ty z vs dv) (ht : ty.isReference = true) (hj : ¬ j < 0 ∧ j < z) (hv : vs.getD j.toNatClampNeg dv = v) (k : Wp p e below P T (mkF m pc' L (v :: S))) : Wp p e below P T (mkF m pc L (.int j :: .ref a :: S)) := by
  subst hp
  obtain ⟨cl, Ar, q1, Sz, q3, H, G⟩ := F
  exact k.go fun t q => A.1.aaload A.2.2.2.2.1 (j := j) (v := v) (by rw [A.2.1]; exact Ar.1) (State.isArrayOf_alike A.hZ.alike Ar.2.1) ht Ar.2.2 (inb_of Sz hj) (H.at (inb_of Sz hj) hv) (g := mkF m pc L (.int j :: .ref a :: S)) rfl rfl (hb A.2.2.2.2.2.1 hd) t q
theorem f_arraylength (A : WS p l e R s m args below meth c Z EL n0 own code ml bw vm T h locs cells slots) {a : Addr} {kA : ClassId} {z : Int32} {vs : List Value} {dv : Value} {ty : FieldType} (hd : decode code pc = .ok (.arraylength, 1)) (hp : pc + 1 = pc') (F : Arv Z h a kA ty z vs dv) (k : Wp p e below P T (mkF m pc' L (.int z :: S))) : Wp p e below P T (mkF m pc L (.ref a :: S)) := by
  subst hp
  obtain ⟨cl, Ar, q1, Sz, q3, -, -⟩ := F
  exact k.go fun t q => A.1.arraylength A.2.2.2.2.1 (by rw [A.2.1]; exact Ar.1) (State.isArrayOf_alike A.hZ.alike Ar.2.1) (g := mkF m pc L (.ref a :: S)) rfl rfl (hb A.2.2.2.2.2.1 hd) t (by rw [len_of Sz q3]; exact q)
theorem f_cast (A : WS p l e R s m args below meth c Z EL n0 own code ml bw vm T h locs cells slots) {K : String} {i : Nat} {a : Addr} (hd : decode code pc = .ok (.checkcast i, 3)) (hp : pc + 3 = pc') (w : (Cond.classLink own i K).before a0 Z = true) (F : Ins Z h a K true) (k : ∀ (T' : State), WS p l e R s m args below meth c Z EL n0 own code ml bw vm T' h locs cells slots → Wp p e below P T' (mkF m pc' L (.ref a :: S))) : Wp p e below P T (mkF m pc L (.ref a :: S)) := by
  subst hp
  obtain ⟨T', X', q, st⟩ := castY A.1 A.2.2.2.2.1 A.hZ A.2.2.2.1 w A.2.1 F (g := mkF m pc L (.ref a :: S)) rfl rfl (hb A.2.2.2.2.2.1 hd)
  exact (k T' (A.still X' q)).go st
theorem f_instY (A : WS p l e R s m args below meth c Z EL n0 own code ml bw vm T h locs cells slots) {K : String} {i : Nat} {a : Addr} (hd : decode code pc = .ok (.instanceof i, 3)) (hp : pc + 3 = pc') (w : (Cond.classLink own i K).before a0 Z = true) (F : Ins Z h a K true) (k : ∀ (T' : State), WS p l e R s m args below meth c Z EL n0 own code ml bw vm T' h locs cells slots → Wp p e below P T' (mkF m pc' L (.int 1 :: S))) : Wp p e below P T (mkF m pc L (.ref a :: S)) := by
  subst hp
  obtain ⟨T', X', q, st⟩ := instY A.1 A.2.2.2.2.1 A.hZ A.2.2.2.1 w A.2.1 F (g := mkF m pc L (.ref a :: S)) rfl rfl (hb A.2.2.2.2.2.1 hd)
  exact (k T' (A.still X' q)).go st
theorem f_initO (A : WS p l e R s m args below meth c Z EL n0 own code ml bw vm T h locs cells slots) {i W : Nat} {a : Addr} (hd : decode code pc = .ok (.invokespecial i, 3)) (hp : pc + 3 = pc') (w1 : (Cond.methodLink own i Lib.objectInit).before a0 Z = true) (w2 : (Cond.instanceMethod Lib.objectInit).before a0 Z = true) (w3 : (Cond.code Lib.objectInit ⟨#[0xb1]⟩ 1 none).before a0 Z = true) (hml : L.size = ml) (hf : 1 ≤ R.frames) (hW : (S.map fun v => v.category).sum ≤ W) (hl : W + 12 ≤ R.locals)
    (k : ∀ (T' : State), WS p l e R s m args below meth c Z EL n0 own code ml bw vm T' h locs cells slots → Wp p e below P T' (mkF m pc' L S)) : Wp p e below P T (mkF m pc L (.ref a :: S)) := by
  subst hp
  obtain ⟨T', X', q, st⟩ := initO A.1 A.2.2.2.2.1 A.hZ A.2.2.2.1 w1 w2 w3 A.2.1 (g := mkF m pc L (.ref a :: S)) rfl (hml.trans A.2.2.2.2.2.2.1.symm) rfl (hb A.2.2.2.2.2.1 hd) hf (W := W) (by show 2 * 0 + _ ≤ _; omega) hl
  exact (k T' (A.still X' q)).go st
theorem WS.wide (A : WS p l e R s m args below meth c Z EL n0 own code ml true vm T h locs cells slots) : (∃ k, s.Since vm k ∧ k ≤ h.size) ∧ CHr Z EL s.vm s.heap vm h := by
  obtain ⟨-, -, -, -, -, -, -, -, -, b⟩ := A
  rcases b with ⟨b, -⟩ | ⟨-, b⟩
  · cases b
  · exact b
theorem f_ldcO (A : WS p l e R s m args below meth c Z EL n0 own code ml true vm T h locs cells slots) {i : Nat} {text : String} (hd : decode code pc = .ok (.ldc i, 2)) (hp : pc + 2 = pc') (w : (Cond.stringLink own i text).before a0 Z = true) (wS : ∀ a ∈ Bundle.stringAtoms, a.before a0 Z = true) (hEL : EW Z a0 EL) {n : Nat} (hn : 4 * text.toList.length ≤ n) (hbig : n ≤ 536870912) (hc : cells + 2 ≤ R.cells) (hl' : slots + (n + 4) ≤ R.slots)
    (k : ∀ (a : Addr) (vm' : Vm) (T' : State) (h' : Heap), WS p l e R s m args below meth c Z EL n0 own code ml true vm' T' h' locs (cells + 2) (slots + (n + 4)) → Ext h h' → CHr Z EL vm h vm' h' → Lit (s.setVm vm') own i a → Wp p e below P T' (mkF m pc' L (.ref a :: S))) : Wp p e below P T (mkF m pc L S) := by
  subst hp
  obtain ⟨⟨k0, hS, hk⟩, hC⟩ := A.wide
  obtain ⟨a, T', h', k1, X', q, E, hS', hk', hZ', ho', hC', hL, st⟩ := ldcOH A.1 A.2.2.2.2.1 A.hZ A.2.2.2.1 w wS A.2.1 hS hk hEL hC.1 (g := mkF m pc L S) rfl (hb A.2.2.2.2.2.1 hd) hn hbig hc hl'
  exact (k a T'.vm T' h' ⟨X', q, hZ', ho', A.2.2.2.2.1, A.2.2.2.2.2.1, A.2.2.2.2.2.2.1, A.2.2.2.2.2.2.2.1, A.old.ext E, Or.inr ⟨rfl, ⟨k1, hS', hk'⟩, hC.trans hC'⟩⟩ E hC' hL).go st
theorem f_ldcC (A : WS p l e R s m args below meth c Z EL n0 own code ml true vm T h locs cells slots) {i : Nat} {text : String} {vs : List Value} {z : Int32} (hd : decode code pc = .ok (.ldc i, 2)) (hp : pc + 2 = pc') (hmem : (own, i) ∈ EL) (ht : (∀ c ∈ text.toList, c.toNat < 256) ∧ text.toList.map (fun c => Value.int (Jvm.Lit.byteI c.toNat.toUInt16)) = vs) (hz : ¬ z < 0) (hl : z.toNatClampNeg = vs.length) (w : (Cond.stringLink own i text).before a0 Z = true) (wS : ∀ a ∈ Bundle.stringAtoms, a.before a0 Z = true) (hEL : EW Z a0 EL) {n : Nat} (hn : 4 * text.toList.length ≤ n) (hbig : n ≤ 536870912) (hc : cells + 2 ≤ R.cells) (hl' : slots + (n + 4) ≤ R.slots)
    (k : ∀ (a b : Addr) (kb : ClassId) (vm' : Vm) (T' : State) (h' : Heap), WS p l e R s m args below meth c Z EL n0 own code ml true vm' T' h' locs (cells + 2) (slots + (n + 4)) → Ext h h' → CHr Z EL vm h vm' h' → Lit (s.setVm vm') own i a → Exa Z h' a "java/lang/String" → Fld Z h' a "java/lang/String" "coder" "B" (.int 0) → Fld Z h' a "java/lang/String" "value" "[B" (.ref b) → Arv Z h' b kb .byte z vs (.int 0) → (∀ x, Safe Z EL vm' h' x → x ≠ a ∧ x ≠ b) → Wp p e below P T' (mkF m pc' L (.ref a :: S))) : Wp p e below P T (mkF m pc L S) := by
  subst hp
  obtain ⟨⟨k0, hS, hk⟩, hC⟩ := A.wide
  obtain ⟨a, T', h', k1, b, kb, X', q, E, hS', hk', hZ', ho', g1, g2, g3, g4, -, -, hC', hL, hsf, st⟩ := ldcCH A.1 A.2.2.2.2.1 A.hZ A.2.2.2.1 w wS A.2.1 hS hk hEL hmem hC.1 ht hz hl (g := mkF m pc L S) rfl (hb A.2.2.2.2.2.1 hd) hn hbig hc hl'
  exact (k a b kb T'.vm T' h' ⟨X', q, hZ', ho', A.2.2.2.2.1, A.2.2.2.2.2.1, A.2.2.2.2.2.2.1, A.2.2.2.2.2.2.2.1, A.old.ext E, Or.inr ⟨rfl, ⟨k1, hS', hk'⟩, hC.trans hC'⟩⟩ E hC' hL g1 g2 g3 g4 hsf).go st
theorem f_ldcA (A : WS p l e R s m args below meth c Z EL n0 own code ml true vm T h locs cells slots) {i : Nat} {text : String} {a : Addr} (hd : decode code pc = .ok (.ldc i, 2)) (hp : pc + 2 = pc') (w : (Cond.stringLink own i text).before a0 Z = true) (hL : Lit (s.setVm vm) own i a) (k : Wp p e below P T (mkF m pc' L (.ref a :: S))) : Wp p e below P T (mkF m pc L S) := by
  subst hp
  exact k.go fun t q => ldcAgain A.1 A.2.2.2.2.1 A.hZ A.2.2.2.1 w hL (g := mkF m pc L S) rfl (hb A.2.2.2.2.2.1 hd) t q
/-- what a body that interns nothing promises -/
abbrev CN (l : Launch) (y : MethodName) (bytes : ByteArray) (maxL : Nat) (ret : Option FieldType) (ws : List Jvm.Cond) (rm : Room) (Z : State) (n0 : Nat) (h : Heap) (as' : Array Value) (wr : List Addr) (Q : Option Value → Heap → Prop) : Prop :=
  MetFree l y (head1 (Jvm.Cond.code y bytes maxL ret :: ws) rm) (fun a U => a = as' ∧ Z.Warmed39 U.vm ∧ U.heap = h) (fun _ _ _ _ _ => True) (fun _ U o U' => ∃ v L, o = .returned v ∧ (Fr n0 L ∧ Keep h U'.heap wr ∧ Q v U'.heap) ∧ FrameEnd U o U' L rm.cells rm.slots)
/-- what a body that may intern promises; SL: what it writes of the booked kinds -/
abbrev CW (l : Launch) (y : MethodName) (bytes : ByteArray) (maxL : Nat) (ret : Option FieldType) (ws : List Jvm.Cond) (rm : Room) (Z : State) (EL : List (String × Nat)) (SL : List Addr) (n0 : Nat) (h : Heap) (as' : Array Value) (wr : List Addr) (Q : Option Value → Heap → Prop) : Prop :=
  MetFree l y (head1 (Jvm.Cond.code y bytes maxL ret :: ws) rm) (fun a U => a = as' ∧ Z.Warmed39 U.vm ∧ U.heap = h ∧ CHv Z EL U.vm h ∧ ∀ x ∈ SL, Safe Z EL U.vm h x) (fun _ _ _ _ _ => True) (fun _ U o U' => ∃ v L, o = .returned v ∧ (Fr n0 L ∧ Keep h U'.heap wr ∧ Q v U'.heap) ∧ CHr Z EL U.vm U.heap U'.vm U'.heap ∧ ReturnedEndW U o U' L rm.cells rm.slots)
abbrev PN (s : State) (n0 : Nat) (h : Heap) (wr : List Addr) (Q : Option Value → Heap → Prop) (kc ks : Nat) : Outcome → State → Prop := fun o t => ∃ v L, o = .returned v ∧ (Fr n0 L ∧ Keep h t.heap wr ∧ Q v t.heap) ∧ FrameEnd s o t L kc ks
abbrev PW (s Z : State) (EL : List (String × Nat)) (n0 : Nat) (h : Heap) (wr : List Addr) (Q : Option Value → Heap → Prop) (kc ks : Nat) : Outcome → State → Prop := fun o t => ∃ v L, o = .returned v ∧ (Fr n0 L ∧ Keep h t.heap wr ∧ Q v t.heap) ∧ CHr Z EL s.vm s.heap t.vm t.heap ∧ ReturnedEndW s o t L kc ks
/-- the walk of a body that interns nothing -/
theorem CN.walk {y : MethodName} {bytes : ByteArray} {maxL : Nat} {ret : Option FieldType} {ws : List Jvm.Cond} {rm : Room} {h0 : Heap} {as' : Array Value} {wr : List Addr} {Q : Option Value → Heap → Prop} {L0 : Array Slot} (hpl : plainFor y = true) (ho : Old Z n0 h0) (hef : ∀ m, entryFrame m as' maxL = mkF m 0 L0 [])
    (k : ∀ p e s m below meth c T, meth.locks = false → meth.sig.returnType = ret → meth.name = y.name → WS p l e rm s m as' below meth c Z [] n0 y.cls bytes maxL false s.vm T h0 [] 0 0 → Wp p e below (PN s n0 h0 wr Q rm.cells rm.slots) T (mkF m 0 L0 [])) : CN l y bytes maxL ret ws rm Z n0 h0 as' wr Q := by
  refine MetFree.of_bodySF hpl hisR ?_
  intro p e s m args below meth c s₁ Bd hml0 hP hK
  obtain ⟨rfl, hZ, hh⟩ := hP
  have X0 : Stand p l e rm s m args below meth c s₁ [] 0 0 := Stand.of_body Bd
  obtain ⟨s₂, o, a1, a2⟩ := k p e s m below meth c s₁ (BodyLoose.notSynchronized Bd) Bd.returns (name_of_methodNamed Bd.named Bd.method).1 ⟨X0, by rw [← hh, Bd.state]; rfl, hZ, findClass_of_methodNamed Bd.named, Bd.exec, Bd.bytes, hml0, Fr.nil n0, ho, Or.inl ⟨rfl, rfl⟩⟩
  exact ⟨s₂, o, castTop (hef m) a1, a2⟩
/-- the walk of a body that may intern -/
theorem CW.walk {y : MethodName} {bytes : ByteArray} {maxL : Nat} {ret : Option FieldType} {ws : List Jvm.Cond} {rm : Room} {h0 : Heap} {as' : Array Value} {wr SL : List Addr} {Q : Option Value → Heap → Prop} {L0 : Array Slot} (hpl : plainFor y = true) (ho : Old Z n0 h0) (hef : ∀ m, entryFrame m as' maxL = mkF m 0 L0 [])
    (k : ∀ p e s m below meth c T, meth.locks = false → meth.sig.returnType = ret → meth.name = y.name → (∀ x ∈ SL, Safe Z EL s.vm h0 x) → WS p l e rm s m as' below meth c Z EL n0 y.cls bytes maxL true s.vm T h0 [] 0 0 → Wp p e below (PW s Z EL n0 h0 wr Q rm.cells rm.slots) T (mkF m 0 L0 [])) : CW l y bytes maxL ret ws rm Z EL SL n0 h0 as' wr Q := by
  refine MetFree.of_bodySF hpl hisR ?_
  intro p e s m args below meth c s₁ Bd hml0 hP hK
  obtain ⟨rfl, hZ, hh, hC, hSL⟩ := hP
  have X0 : Stand p l e rm s m args below meth c s₁ [] 0 0 := Stand.of_body Bd
  subst hh
  obtain ⟨s₂, o, a1, a2⟩ := k p e s m below meth c s₁ (BodyLoose.notSynchronized Bd) Bd.returns (name_of_methodNamed Bd.named Bd.method).1 hSL ⟨X0, by rw [Bd.state]; rfl, hZ, findClass_of_methodNamed Bd.named, Bd.exec, Bd.bytes, hml0, Fr.nil n0, ho, Or.inr ⟨rfl, ⟨_, (State.WarmedH.refl s).since s.heap.size, Nat.le_refl _⟩, CHr.refl hC⟩⟩
  exact ⟨s₂, o, castTop (hef m) a1, a2⟩
theorem f_retN (A : WS p l e R s m args below meth c Z EL n0 own code ml false vm T h locs cells slots) {h0 : Heap} {wr : List Addr} {Q : Option Value → Heap → Prop} {kc ks : Nat} (hlk : meth.locks = false) (hret : meth.sig.returnType = none) (hd : decode code pc = .ok (.return_, 1))  (hc : cells ≤ kc) (hs : slots ≤ ks) (K : Keep h0 h wr) (q : Q (none) h) : Wp p e below (PN s n0 h0 wr Q kc ks) T (mkF m pc L []) := by
  obtain ⟨X, rfl, -, -, hx, hby, -, N, -, b⟩ := A
  obtain ⟨-, rfl⟩ : false = false ∧ vm = s.vm := b.elim id fun b => by cases b.1
  have X : Stand p l e R s m args below meth c T locs cells slots := X
  obtain ⟨fs, hr, hrun, hended, hW, hsame⟩ := X.leave (v := none) (by intro _; rfl) hlk
  refine ⟨_, _, ?_, hrun, hended, _, _, rfl, ⟨N, K, q⟩, ⟨_, rfl⟩, hW, hsame.mono hc hs⟩
  exact X.returnOut hx hret (hb hby hd) hr
theorem f_retW (A : WS p l e R s m args below meth c Z EL n0 own code ml true vm T h locs cells slots) {a0 : Array Value} (hEL : EW Z a0 EL) {h0 : Heap} {wr : List Addr} {Q : Option Value → Heap → Prop} {kc ks : Nat} (hlk : meth.locks = false) (hret : meth.sig.returnType = none) (hd : decode code pc = .ok (.return_, 1))  (hc : cells ≤ kc) (hs : slots ≤ ks) (K : Keep h0 h wr) (q : Q (none) h) : Wp p e below (PW s Z EL n0 h0 wr Q kc ks) T (mkF m pc L []) := by
  obtain ⟨⟨k0, hS, hk⟩, hC⟩ := A.wide
  obtain ⟨X, rfl, hZ, -, hx, hby, -, N, -, -⟩ := A
  obtain ⟨fs, hr, hrun, hended, hW⟩ := X.leaveW hS hk (v := none) (by intro _; rfl) hlk
  refine ⟨_, _, ?_, hrun, hended, _, _, rfl, ⟨N, K, q⟩, hC.trans (show CHr Z EL vm T.heap T.vm T.heap from CHv.at X hZ hEL hC.1), hW.1, hW.2.1, hW.2.2.1, hW.2.2.2.mono hc hs⟩
  exact X.returnOut hx hret (hb hby hd) hr
theorem f_retIN (A : WS p l e R s m args below meth c Z EL n0 own code ml false vm T h locs cells slots) {h0 : Heap} {wr : List Addr} {Q : Option Value → Heap → Prop} {kc ks : Nat} (hlk : meth.locks = false) (hret : meth.sig.returnType = some .int) (hd : decode code pc = .ok (.ireturn, 1)) {z : Int32} (hc : cells ≤ kc) (hs : slots ≤ ks) (K : Keep h0 h wr) (q : Q (some (.int z)) h) : Wp p e below (PN s n0 h0 wr Q kc ks) T (mkF m pc L (.int z :: S)) := by
  obtain ⟨X, rfl, -, -, hx, hby, -, N, -, b⟩ := A
  obtain ⟨-, rfl⟩ : false = false ∧ vm = s.vm := b.elim id fun b => by cases b.1
  have X : Stand p l e R s m args below meth c T locs cells slots := X
  obtain ⟨fs, hr, hrun, hended, hW, hsame⟩ := X.leave (v := some (.int z)) (by intro h; rw [hret] at h; cases h) hlk
  refine ⟨_, _, ?_, hrun, hended, _, _, rfl, ⟨N, K, q⟩, ⟨_, rfl⟩, hW, hsame.mono hc hs⟩
  exact retOut X hx hret rfl (Or.inl ⟨rfl, Or.inl rfl, z, rfl⟩) (hb hby hd) hr
theorem f_retIW (A : WS p l e R s m args below meth c Z EL n0 own code ml true vm T h locs cells slots) {a0 : Array Value} (hEL : EW Z a0 EL) {h0 : Heap} {wr : List Addr} {Q : Option Value → Heap → Prop} {kc ks : Nat} (hlk : meth.locks = false) (hret : meth.sig.returnType = some .int) (hd : decode code pc = .ok (.ireturn, 1)) {z : Int32} (hc : cells ≤ kc) (hs : slots ≤ ks) (K : Keep h0 h wr) (q : Q (some (.int z)) h) : Wp p e below (PW s Z EL n0 h0 wr Q kc ks) T (mkF m pc L (.int z :: S)) := by
  obtain ⟨⟨k0, hS, hk⟩, hC⟩ := A.wide
  obtain ⟨X, rfl, hZ, -, hx, hby, -, N, -, -⟩ := A
  obtain ⟨fs, hr, hrun, hended, hW⟩ := X.leaveW hS hk (v := some (.int z)) (by intro h; rw [hret] at h; cases h) hlk
  refine ⟨_, _, ?_, hrun, hended, _, _, rfl, ⟨N, K, q⟩, hC.trans (show CHr Z EL vm T.heap T.vm T.heap from CHv.at X hZ hEL hC.1), hW.1, hW.2.1, hW.2.2.1, hW.2.2.2.mono hc hs⟩
  exact retOut X hx hret rfl (Or.inl ⟨rfl, Or.inl rfl, z, rfl⟩) (hb hby hd) hr
theorem f_retBN (A : WS p l e R s m args below meth c Z EL n0 own code ml false vm T h locs cells slots) {h0 : Heap} {wr : List Addr} {Q : Option Value → Heap → Prop} {kc ks : Nat} (hlk : meth.locks = false) {t : FieldType} (hret : meth.sig.returnType = some t) (hd : decode code pc = .ok (.ireturn, 1)) {z : Int32} (ht : t = .boolean ∨ t = .byte ∨ t = .char ∨ t = .short) (z' : Int32) (hz : nar t z = z') (hc : cells ≤ kc) (hs : slots ≤ ks) (K : Keep h0 h wr) (q : Q (some (.int z')) h) : Wp p e below (PN s n0 h0 wr Q kc ks) T (mkF m pc L (.int z :: S)) := by
  obtain ⟨X, rfl, -, -, hx, hby, -, N, -, b⟩ := A
  obtain ⟨-, rfl⟩ : false = false ∧ vm = s.vm := b.elim id fun b => by cases b.1
  have X : Stand p l e R s m args below meth c T locs cells slots := X
  obtain ⟨fs, hr, hrun, hended, hW, hsame⟩ := X.leave (v := some (.int z')) (by intro h; rw [hret] at h; cases h) hlk
  refine ⟨_, _, ?_, hrun, hended, _, _, rfl, ⟨N, K, q⟩, ⟨_, rfl⟩, hW, hsame.mono hc hs⟩
  subst hz; exact retN X hx hret ht (hb hby hd) hr
theorem f_retBW (A : WS p l e R s m args below meth c Z EL n0 own code ml true vm T h locs cells slots) {a0 : Array Value} (hEL : EW Z a0 EL) {h0 : Heap} {wr : List Addr} {Q : Option Value → Heap → Prop} {kc ks : Nat} (hlk : meth.locks = false) {t : FieldType} (hret : meth.sig.returnType = some t) (hd : decode code pc = .ok (.ireturn, 1)) {z : Int32} (ht : t = .boolean ∨ t = .byte ∨ t = .char ∨ t = .short) (z' : Int32) (hz : nar t z = z') (hc : cells ≤ kc) (hs : slots ≤ ks) (K : Keep h0 h wr) (q : Q (some (.int z')) h) : Wp p e below (PW s Z EL n0 h0 wr Q kc ks) T (mkF m pc L (.int z :: S)) := by
  obtain ⟨⟨k0, hS, hk⟩, hC⟩ := A.wide
  obtain ⟨X, rfl, hZ, -, hx, hby, -, N, -, -⟩ := A
  obtain ⟨fs, hr, hrun, hended, hW⟩ := X.leaveW hS hk (v := some (.int z')) (by intro h; rw [hret] at h; cases h) hlk
  refine ⟨_, _, ?_, hrun, hended, _, _, rfl, ⟨N, K, q⟩, hC.trans (show CHr Z EL vm T.heap T.vm T.heap from CHv.at X hZ hEL hC.1), hW.1, hW.2.1, hW.2.2.1, hW.2.2.2.mono hc hs⟩
  subst hz; exact retN X hx hret ht (hb hby hd) hr
theorem f_retJN (A : WS p l e R s m args below meth c Z EL n0 own code ml false vm T h locs cells slots) {h0 : Heap} {wr : List Addr} {Q : Option Value → Heap → Prop} {kc ks : Nat} (hlk : meth.locks = false) (hret : meth.sig.returnType = some .long) (hd : decode code pc = .ok (.lreturn, 1)) {z : Int64} (hc : cells ≤ kc) (hs : slots ≤ ks) (K : Keep h0 h wr) (q : Q (some (.long z)) h) : Wp p e below (PN s n0 h0 wr Q kc ks) T (mkF m pc L (.long z :: S)) := by
  obtain ⟨X, rfl, -, -, hx, hby, -, N, -, b⟩ := A
  obtain ⟨-, rfl⟩ : false = false ∧ vm = s.vm := b.elim id fun b => by cases b.1
  have X : Stand p l e R s m args below meth c T locs cells slots := X
  obtain ⟨fs, hr, hrun, hended, hW, hsame⟩ := X.leave (v := some (.long z)) (by intro h; rw [hret] at h; cases h) hlk
  refine ⟨_, _, ?_, hrun, hended, _, _, rfl, ⟨N, K, q⟩, ⟨_, rfl⟩, hW, hsame.mono hc hs⟩
  exact retOut X hx hret rfl (Or.inr (Or.inl ⟨rfl, rfl, z, rfl⟩)) (hb hby hd) hr
theorem f_retJW (A : WS p l e R s m args below meth c Z EL n0 own code ml true vm T h locs cells slots) {a0 : Array Value} (hEL : EW Z a0 EL) {h0 : Heap} {wr : List Addr} {Q : Option Value → Heap → Prop} {kc ks : Nat} (hlk : meth.locks = false) (hret : meth.sig.returnType = some .long) (hd : decode code pc = .ok (.lreturn, 1)) {z : Int64} (hc : cells ≤ kc) (hs : slots ≤ ks) (K : Keep h0 h wr) (q : Q (some (.long z)) h) : Wp p e below (PW s Z EL n0 h0 wr Q kc ks) T (mkF m pc L (.long z :: S)) := by
  obtain ⟨⟨k0, hS, hk⟩, hC⟩ := A.wide
  obtain ⟨X, rfl, hZ, -, hx, hby, -, N, -, -⟩ := A
  obtain ⟨fs, hr, hrun, hended, hW⟩ := X.leaveW hS hk (v := some (.long z)) (by intro h; rw [hret] at h; cases h) hlk
  refine ⟨_, _, ?_, hrun, hended, _, _, rfl, ⟨N, K, q⟩, hC.trans (show CHr Z EL vm T.heap T.vm T.heap from CHv.at X hZ hEL hC.1), hW.1, hW.2.1, hW.2.2.1, hW.2.2.2.mono hc hs⟩
  exact retOut X hx hret rfl (Or.inr (Or.inl ⟨rfl, rfl, z, rfl⟩)) (hb hby hd) hr
theorem f_retRN (A : WS p l e R s m args below meth c Z EL n0 own code ml false vm T h locs cells slots) {h0 : Heap} {wr : List Addr} {Q : Option Value → Heap → Prop} {kc ks : Nat} (hlk : meth.locks = false) {t : FieldType} (hret : meth.sig.returnType = some t) (hd : decode code pc = .ok (.areturn, 1)) {z : Value} (ht : t.isReference = true) (hz : z.isRef = true) (hc : cells ≤ kc) (hs : slots ≤ ks) (K : Keep h0 h wr) (q : Q (some z) h) : Wp p e below (PN s n0 h0 wr Q kc ks) T (mkF m pc L (z :: S)) := by
  obtain ⟨X, rfl, -, -, hx, hby, -, N, -, b⟩ := A
  obtain ⟨-, rfl⟩ : false = false ∧ vm = s.vm := b.elim id fun b => by cases b.1
  have X : Stand p l e R s m args below meth c T locs cells slots := X
  obtain ⟨fs, hr, hrun, hended, hW, hsame⟩ := X.leave (v := some z) (by intro h; rw [hret] at h; cases h) hlk
  refine ⟨_, _, ?_, hrun, hended, _, _, rfl, ⟨N, K, q⟩, ⟨_, rfl⟩, hW, hsame.mono hc hs⟩
  exact retOut X hx hret (by cases t <;> cases z <;> first | rfl | cases ht | cases hz) (Or.inr (Or.inr (Or.inr (Or.inr ⟨rfl, ht, hz⟩)))) (hb hby hd) hr
theorem f_retRW (A : WS p l e R s m args below meth c Z EL n0 own code ml true vm T h locs cells slots) {a0 : Array Value} (hEL : EW Z a0 EL) {h0 : Heap} {wr : List Addr} {Q : Option Value → Heap → Prop} {kc ks : Nat} (hlk : meth.locks = false) {t : FieldType} (hret : meth.sig.returnType = some t) (hd : decode code pc = .ok (.areturn, 1)) {z : Value} (ht : t.isReference = true) (hz : z.isRef = true) (hc : cells ≤ kc) (hs : slots ≤ ks) (K : Keep h0 h wr) (q : Q (some z) h) : Wp p e below (PW s Z EL n0 h0 wr Q kc ks) T (mkF m pc L (z :: S)) := by
  obtain ⟨⟨k0, hS, hk⟩, hC⟩ := A.wide
  obtain ⟨X, rfl, hZ, -, hx, hby, -, N, -, -⟩ := A
  obtain ⟨fs, hr, hrun, hended, hW⟩ := X.leaveW hS hk (v := some z) (by intro h; rw [hret] at h; cases h) hlk
  refine ⟨_, _, ?_, hrun, hended, _, _, rfl, ⟨N, K, q⟩, hC.trans (show CHr Z EL vm T.heap T.vm T.heap from CHv.at X hZ hEL hC.1), hW.1, hW.2.1, hW.2.2.1, hW.2.2.2.mono hc hs⟩
  exact retOut X hx hret (by cases t <;> cases z <;> first | rfl | cases ht | cases hz) (Or.inr (Or.inr (Or.inr (Or.inr ⟨rfl, ht, hz⟩)))) (hb hby hd) hr
theorem f_callS (A : WS p l e R s m args below meth c Z EL n0 own code ml bw vm T h locs cells slots) {i : Nat} {y : MethodName} {bytes : ByteArray} {maxL : Nat} {ret : Option FieldType} {wr : List Addr} {Q : Option Value → Heap → Prop} {kc ks : Nat} (hd : decode code pc = .ok (.invokestatic i, 3)) (hp : pc + 3 = pc') (w1 : (Cond.methodLink own i y).before a0 Z = true) (w2 : (Cond.static y).before a0 Z = true) (w3 : (Cond.initialized y.cls).before a0 Z = true) (w4 : (Cond.code y bytes maxL ret).before a0 Z = true) (hy : y.cls ≠ "java/lang/invoke/MethodHandle" ∧ y.cls ≠ "java/lang/invoke/VarHandle")
    {ps : List FieldType} {r : Option FieldType} (pd : parseMethodDescriptor y.desc = some ⟨ps, r⟩) (argsL rest : List Value) (hal : argsL.length = ps.length) (hS : S = argsL.reverse ++ rest) (hml : L.size = ml) (W : Nat) (hW : (rest.map fun v => v.category).sum ≤ W) (hK : BkN l R p e below (s.setVm vm) args y 3 W argsL.toArray h n0 wr Q kc ks) (hc : cells + kc ≤ R.cells) (hs : slots + ks ≤ R.slots) (hn : ∀ x ∈ wr, n0 ≤ x) (sf : bw = true → ∀ x ∈ wr, Safe Z EL vm h x)
    (k : ∀ (v : Option Value) (T' : State) (h' : Heap) (L' : List Loc), WS p l e R s m args below meth c Z EL n0 own code ml bw vm T' h' (locs ++ L') (cells + kc) (slots + ks) → Keep h h' wr → Q v h' → Wp p e below P T' (mkF m pc' L (v.toList ++ rest))) : Wp p e below P T (mkF m pc L S) := by
  subst hp hS
  obtain ⟨v, _, ⟨T', L1, k1, n1⟩, -, X', ⟨L', ⟨N, K, q⟩, l1, y1, z1⟩, st⟩ := Jvm.LawKit.callS A.1 A.2.2.2.2.1 (y := y) A.2.2.2.1 (mvT A.hZ w1) (mvT A.hZ w2) (mvT A.hZ w3) (mvT A.hZ w4) hy hK (g := mkF m pc L (argsL.reverse ++ rest)) rfl (hml.trans A.2.2.2.2.2.2.1.symm) (argsL := argsL) (rest := rest) (lenOf pd hal) rfl (by show 2 * 0 + _ ≤ _; omega) (hb A.2.2.2.2.2.1 hd) (fun _ _ => ⟨rfl, A.2.1, hc, hs⟩)
  dsimp only [Pt.U, Pt.locs, Pt.cells, Pt.slots] at X' l1 y1 z1 st N K q
  subst l1 y1 z1
  exact (k v T' T'.heap L' (A.kept X' rfl (A.2.2.2.2.2.2.2.1.app N) K hn sf) K q).go st
theorem f_callI (A : WS p l e R s m args below meth c Z EL n0 own code ml bw vm T h locs cells slots) {i : Nat} {y : MethodName} {bytes : ByteArray} {maxL : Nat} {a : Addr} {wr : List Addr} {Q : Option Value → Heap → Prop} {kc ks : Nat} (hd : decode code pc = .ok (.invokespecial i, 3)) (hp : pc + 3 = pc') (hy1 : y.name = "<init>") (w1 : (Cond.methodLink own i y).before a0 Z = true) (w2 : (Cond.instanceMethod y).before a0 Z = true) (w4 : (Cond.code y bytes maxL none).before a0 Z = true) (hy : y.cls ≠ "java/lang/invoke/MethodHandle" ∧ y.cls ≠ "java/lang/invoke/VarHandle")
    {ps : List FieldType} {r : Option FieldType} (pd : parseMethodDescriptor y.desc = some ⟨ps, r⟩) (argsL rest : List Value) (hal : argsL.length = ps.length) (hS : S = argsL.reverse ++ .ref a :: rest) (hml : L.size = ml) (W : Nat) (hW : (rest.map fun v => v.category).sum ≤ W) (hK : BkN l R p e below (s.setVm vm) args y 3 W (.ref a :: argsL).toArray h n0 wr Q kc ks) (hc : cells + kc ≤ R.cells) (hs : slots + ks ≤ R.slots) (hn : ∀ x ∈ wr, n0 ≤ x) (sf : bw = true → ∀ x ∈ wr, Safe Z EL vm h x)
    (k : ∀ (v : Option Value) (T' : State) (h' : Heap) (L' : List Loc), WS p l e R s m args below meth c Z EL n0 own code ml bw vm T' h' (locs ++ L') (cells + kc) (slots + ks) → Keep h h' wr → Q v h' → Wp p e below P T' (mkF m pc' L (v.toList ++ rest))) : Wp p e below P T (mkF m pc L S) := by
  subst hp hS
  obtain ⟨v, _, ⟨T', L1, k1, n1⟩, -, X', ⟨L', ⟨N, K, q⟩, l1, y1, z1⟩, st⟩ := A.1.specialBack A.2.2.2.2.1 (y := y) hy1 A.2.2.2.1 (mvT A.hZ w1) (mvT A.hZ w2) (mvT A.hZ w4) hy hK (g := mkF m pc L (argsL.reverse ++ .ref a :: rest)) rfl (hml.trans A.2.2.2.2.2.2.1.symm) (Steps.refl _) (a := a) (argsL := argsL) (rest := rest) (lenOf pd hal) rfl (by show 2 * 0 + _ ≤ _; omega) (hb A.2.2.2.2.2.1 hd) (fun _ _ => ⟨rfl, A.2.1, hc, hs⟩)
  dsimp only [Pt.U, Pt.locs, Pt.cells, Pt.slots] at X' l1 y1 z1 st N K q
  subst l1 y1 z1
  exact (k v T' T'.heap L' (A.kept X' rfl (A.2.2.2.2.2.2.2.1.app N) K hn sf) K q).gos st
theorem f_callV (A : WS p l e R s m args below meth c Z EL n0 own code ml bw vm T h locs cells slots) {i : Nat} {y z : MethodName} {C : String} {a : Addr} {wr : List Addr} {Q : Option Value → Heap → Prop} {kc ks : Nat} (hd : decode code pc = .ok (.invokevirtual i, 3)) (hp : pc + 3 = pc') (w1 : (Cond.methodLink own i y).before a0 Z = true) (w2 : (Cond.declares y).before a0 Z = true) (hnf : NotFace (s.setVm vm) y) (w3 : (Cond.selects C y z).before a0 Z = true) (w4 : (Cond.instanceMethod z).before a0 Z = true) (hy : y.cls ≠ "java/lang/invoke/MethodHandle" ∧ y.cls ≠ "java/lang/invoke/VarHandle") (E : Exa Z h a C)
    {ps : List FieldType} {r : Option FieldType} (pd : parseMethodDescriptor y.desc = some ⟨ps, r⟩) (argsL rest : List Value) (hal : argsL.length = ps.length) (hS : S = argsL.reverse ++ .ref a :: rest) (hml : L.size = ml) (W : Nat) (hW : (rest.map fun v => v.category).sum ≤ W) (hK : BkN l R p e below (s.setVm vm) args z 3 W (.ref a :: argsL).toArray h n0 wr Q kc ks) (hc : cells + kc ≤ R.cells) (hs : slots + ks ≤ R.slots) (hn : ∀ x ∈ wr, n0 ≤ x) (sf : bw = true → ∀ x ∈ wr, Safe Z EL vm h x)
    (k : ∀ (v : Option Value) (T' : State) (h' : Heap) (L' : List Loc), WS p l e R s m args below meth c Z EL n0 own code ml bw vm T' h' (locs ++ L') (cells + kc) (slots + ks) → Keep h h' wr → Q v h' → Wp p e below P T' (mkF m pc' L (v.toList ++ rest))) : Wp p e below P T (mkF m pc L S) := by
  subst hp hS
  obtain ⟨cq, kq, qa, qb, qc⟩ := isOf A.hZ A.2.1 E
  obtain ⟨v, _, ⟨T', L1, k1, n1⟩, -, X', ⟨L', ⟨N, K, q⟩, l1, y1, z1⟩, st⟩ := A.1.virtualBack A.2.2.2.2.1 (y := y) (z := z) A.2.2.2.1 (mvT A.hZ w1) (mvT A.hZ w2) hnf (mvT A.hZ w3) (mvT A.hZ w4) hy hK qa qc (g := mkF m pc L (argsL.reverse ++ .ref a :: rest)) rfl (hml.trans A.2.2.2.2.2.2.1.symm) (Steps.refl _) (argsL := argsL) (rest := rest) (lenOf pd hal) rfl (by show 2 * 0 + _ ≤ _; omega) (hb A.2.2.2.2.2.1 hd) (fun _ _ => ⟨rfl, A.2.1, hc, hs⟩)
  dsimp only [Pt.U, Pt.locs, Pt.cells, Pt.slots] at X' l1 y1 z1 st N K q
  subst l1 y1 z1
  exact (k v T' T'.heap L' (A.kept X' rfl (A.2.2.2.2.2.2.2.1.app N) K hn sf) K q).gos st
theorem nfS {y : MethodName} {C : String} (A : WS p l e R s m args below meth c Z EL n0 own code ml bw vm T h locs cells slots) (w3 : (Cond.selects C y y).before a0 Z = true) : NotFace (s.setVm vm) y := notFace_of_selects (args := #[]) (mvT A.hZ w3)
/-- the payer, of a contract -/
theorem CN.pay {y : MethodName} {bytes : ByteArray} {maxL : Nat} {ret : Option FieldType} {rm : Room} {as' : Array Value} {wr : List Addr} {Q : Option Value → Heap → Prop} {len W : Nat} (A : WS p l e R s m args below meth c Z EL n0 own code ml bw vm T h locs cells slots) (hM : CN l y bytes maxL ret [] rm Z n0 h as' wr Q) (wc : (Cond.code y bytes maxL ret).before a0 Z = true) (wz : (Cond.initialized y.cls).before a0 Z = true) (hf : rm.frames + 1 ≤ R.frames) (hl : W + (maxL + 11) + rm.locals ≤ R.locals) :
    BkN l R p e below (s.setVm vm) args y len W as' h n0 wr Q rm.cells rm.slots :=
  backOf (Q := fun v h' L => Fr n0 L ∧ Keep h h' wr ∧ Q v h') hM A.hZ wc wz hf hl
theorem nfOf {U : State} {a : Array Value} {C : String} {y y0 : MethodName} (w : (Cond.selects C y0 y0).before a U = true) (hc : y0.cls = y.cls) : NotFace U y := fun r0 h0 => by
  obtain ⟨c2, r2, m2, q1, q2, q3, q4, kP, hkP, hkPi⟩ := Cond.selects_spec w
  have e1 := findClass_of_methodNamed h0
  have e2 := findClass_of_methodNamed q3
  rw [hc] at e2
  have e3 : r0.cls = m2.cls := Option.some.inj (e1.symm.trans e2)
  exact ⟨kP, by rw [e3]; exact hkP, hkPi⟩
theorem nfT {C : String} {y y0 : MethodName} (A : WS p l e R s m args below meth c Z EL n0 own code ml bw vm T h locs cells slots) (w : (Cond.selects C y0 y0).before a0 Z = true) (hc : y0.cls = y.cls) : NotFace (s.setVm vm) y := nfOf (a := #[]) (mvT A.hZ w) hc
theorem sameSelf {U : State} {a : Array Value} {y : MethodName} (wi : (Cond.instanceMethod y).before a U = true) (nf : NotFace U y) (hy : y.cls ≠ "java/lang/invoke/MethodHandle" ∧ y.cls ≠ "java/lang/invoke/VarHandle") : (Cond.sameMethod y.cls y.cls y.name y.desc).before a U = true := by
  obtain ⟨mk, methM, hnamed, -, -, -⟩ := Cond.instanceMethod_spec wi
  obtain ⟨k, hk, hni⟩ := nf mk hnamed
  have hf : U.methodFound? y.cls y.name y.desc = some mk := State.methodFound?_of_named hnamed hy
  have hc := findClass_of_methodNamed hnamed
  have hn : U.methodNamed? ⟨y.cls, y.name, y.desc⟩ = some mk := hnamed
  simp only [Cond.before, Cond.holds, Cond.value, hc, hf, hn]
  simp [hk, hni]
theorem f_callP (A : WS p l e R s m args below meth c Z EL n0 own code ml bw vm T h locs cells slots) {i : Nat} {y : MethodName} {bytes : ByteArray} {maxL : Nat} {ret : Option FieldType} {C D : String} {a : Addr} {wr : List Addr} {Q : Option Value → Heap → Prop} {kc ks : Nat} (hd : decode code pc = .ok (.invokevirtual i, 3)) (hp : pc + 3 = pc') (w1 : (Cond.methodLink own i y).before a0 Z = true) (w2 : (Cond.instanceMethod y).before a0 Z = true) (w3 : (Cond.privateMethod y).before a0 Z = true) (w4 : (Cond.selects D y y).before a0 Z = true) (wc : (Cond.code y bytes maxL ret).before a0 Z = true) (hy : y.cls ≠ "java/lang/invoke/MethodHandle" ∧ y.cls ≠ "java/lang/invoke/VarHandle") (E : Exa Z h a C)
    {ps : List FieldType} {r : Option FieldType} (pd : parseMethodDescriptor y.desc = some ⟨ps, r⟩) (argsL rest : List Value) (hal : argsL.length = ps.length) (hS : S = argsL.reverse ++ .ref a :: rest) (hml : L.size = ml) (W : Nat) (hW : (rest.map fun v => v.category).sum ≤ W) (hK : BkN l R p e below (s.setVm vm) args y 3 W (.ref a :: argsL).toArray h n0 wr Q kc ks) (hc : cells + kc ≤ R.cells) (hs : slots + ks ≤ R.slots) (hn : ∀ x ∈ wr, n0 ≤ x) (sf : bw = true → ∀ x ∈ wr, Safe Z EL vm h x)
    (k : ∀ (v : Option Value) (T' : State) (h' : Heap) (L' : List Loc), WS p l e R s m args below meth c Z EL n0 own code ml bw vm T' h' (locs ++ L') (cells + kc) (slots + ks) → Keep h h' wr → Q v h' → Wp p e below P T' (mkF m pc' L (v.toList ++ rest))) : Wp p e below P T (mkF m pc L S) := by
  subst hp hS
  have hpriv := Cond.privateMethod_at (mvP (args := args) A.hZ w3)
  have hinst : (Cond.instanceMethod y).before args (s.setVm vm) = true := mvT A.hZ w2
  obtain ⟨mk, methM, hnamed, -, -, -⟩ := Cond.instanceMethod_spec hinst
  obtain ⟨kk, hkk, hni⟩ := notFace_of_selects (args := args) (mvT A.hZ w4) mk hnamed
  have hsel := selects_self_of_private (findClass_of_methodNamed hnamed) hkk hni hpriv hinst hy
  obtain ⟨cq, q1, q2⟩ := E.cell
  obtain ⟨v, _, ⟨T', L1, k1, n1⟩, -, X', ⟨L', ⟨N, K, q⟩, l1, y1, z1⟩, st⟩ := A.1.privateBack A.2.2.2.2.1 (y := y) A.2.2.2.1 (mvT A.hZ w1) hinst hsel hpriv (mvT A.hZ wc) hy hK (g := mkF m pc L (argsL.reverse ++ .ref a :: rest)) rfl (hml.trans A.2.2.2.2.2.2.1.symm) (Steps.refl _) (a := a) (by rw [A.2.1]; exact q1) q2 (argsL := argsL) (rest := rest) (lenOf pd hal) rfl (by show 2 * 0 + _ ≤ _; omega) (hb A.2.2.2.2.2.1 hd) (fun _ _ => ⟨rfl, A.2.1, hc, hs⟩)
  dsimp only [Pt.U, Pt.locs, Pt.cells, Pt.slots] at X' l1 y1 z1 st N K q
  subst l1 y1 z1
  exact (k v T' T'.heap L' (A.kept X' rfl (A.2.2.2.2.2.2.2.1.app N) K hn sf) K q).gos st
theorem f_callU (A : WS p l e R s m args below meth c Z EL n0 own code ml bw vm T h locs cells slots) {i : Nat} {y : MethodName} {bytes : ByteArray} {maxL : Nat} {ret : Option FieldType} {C : String} {a : Addr} {wr : List Addr} {Q : Option Value → Heap → Prop} {kc ks : Nat} (hd : decode code pc = .ok (.invokespecial i, 3)) (hp : pc + 3 = pc') (w1 : (Cond.methodLink own i y).before a0 Z = true) (nf : NotFace Z y) (hy2 : y.cls ≠ "java/lang/invoke/MethodHandle" ∧ y.cls ≠ "java/lang/invoke/VarHandle") (w3 : (Cond.instanceMethod y).before a0 Z = true) (w4 : (Cond.superclass own y.cls).before a0 Z = true) (wc : (Cond.code y bytes maxL ret).before a0 Z = true) (hy : y.name ≠ "<init>") (E : Exa Z h a C)
    {ps : List FieldType} {r : Option FieldType} (pd : parseMethodDescriptor y.desc = some ⟨ps, r⟩) (argsL rest : List Value) (hal : argsL.length = ps.length) (hS : S = argsL.reverse ++ .ref a :: rest) (hml : L.size = ml) (W : Nat) (hW : (rest.map fun v => v.category).sum ≤ W) (hK : BkN l R p e below (s.setVm vm) args y 3 W (.ref a :: argsL).toArray h n0 wr Q kc ks) (hc : cells + kc ≤ R.cells) (hs : slots + ks ≤ R.slots) (hn : ∀ x ∈ wr, n0 ≤ x) (sf : bw = true → ∀ x ∈ wr, Safe Z EL vm h x)
    (k : ∀ (v : Option Value) (T' : State) (h' : Heap) (L' : List Loc), WS p l e R s m args below meth c Z EL n0 own code ml bw vm T' h' (locs ++ L') (cells + kc) (slots + ks) → Keep h h' wr → Q v h' → Wp p e below P T' (mkF m pc' L (v.toList ++ rest))) : Wp p e below P T (mkF m pc L S) := by
  subst hp hS
  obtain ⟨v, _, ⟨T', L1, k1, n1⟩, -, X', ⟨L', ⟨N, K, q⟩, l1, y1, z1⟩, st⟩ := superBack A.1 A.2.2.2.2.1 A.hZ (y := y) A.2.2.2.1 w1 (sameSelf w3 nf hy2) w3 w4 hy hK A.2.1 (Ins.self E) (g := mkF m pc L (argsL.reverse ++ .ref a :: rest)) rfl (hml.trans A.2.2.2.2.2.2.1.symm) wc (argsL := argsL) (rest := rest) (lenOf pd hal) rfl (by show 2 * 0 + _ ≤ _; omega) (hb A.2.2.2.2.2.1 hd) (fun _ _ => ⟨rfl, A.2.1, hc, hs⟩)
  dsimp only [Pt.U, Pt.locs, Pt.cells, Pt.slots] at X' l1 y1 z1 st N K q
  subst l1 y1 z1
  exact (k v T' T'.heap L' (A.kept X' rfl (A.2.2.2.2.2.2.2.1.app N) K hn sf) K q).gos st
theorem f_callF (A : WS p l e R s m args below meth c Z EL n0 own code ml bw vm T h locs cells slots) {i n : Nat} {y z : MethodName} {C : String} {a : Addr} {wr : List Addr} {Q : Option Value → Heap → Prop} {kc ks : Nat} (hd : decode code pc = .ok (.invokeinterface i n, 5)) (hp : pc + 5 = pc') (w1 : (Cond.methodLink own i y).before a0 Z = true) (w2 : (Cond.declares y).before a0 Z = true) (w3 : (Cond.interfaceMethod y.cls y.cls y.name y.desc).before a0 Z = true) (hfc : ((Cond.interfaceMethod y.cls y.cls y.name y.desc).onTables && (Cond.interfaceMethod y.cls y.cls y.name y.desc).keepsFace) = true) (w4 : (Cond.selects C y z).before a0 Z = true) (w5 : (Cond.instanceMethod z).before a0 Z = true) (w6 : (Cond.publicMethod z).before a0 Z = true) (w7 : (Cond.unhidden C y.name y.desc).before a0 Z = true) (w8 : (Cond.castable C y.cls).before a0 Z = true) (hy : y.cls ≠ "java/lang/invoke/MethodHandle" ∧ y.cls ≠ "java/lang/invoke/VarHandle") (E : Exa Z h a C)
    {ps : List FieldType} {r : Option FieldType} (pd : parseMethodDescriptor y.desc = some ⟨ps, r⟩) (argsL rest : List Value) (hal : argsL.length = ps.length) (hS : S = argsL.reverse ++ .ref a :: rest) (hml : L.size = ml) (W : Nat) (hW : (rest.map fun v => v.category).sum ≤ W) (hK : BkN l R p e below (s.setVm vm) args z 5 W (.ref a :: argsL).toArray h n0 wr Q kc ks) (hc : cells + kc ≤ R.cells) (hs : slots + ks ≤ R.slots) (hn : ∀ x ∈ wr, n0 ≤ x) (sf : bw = true → ∀ x ∈ wr, Safe Z EL vm h x)
    (k : ∀ (v : Option Value) (T' : State) (h' : Heap) (L' : List Loc), WS p l e R s m args below meth c Z EL n0 own code ml bw vm T' h' (locs ++ L') (cells + kc) (slots + ks) → Keep h h' wr → Q v h' → Wp p e below P T' (mkF m pc' L (v.toList ++ rest))) : Wp p e below P T (mkF m pc L S) := by
  subst hp hS
  obtain ⟨cq, kq, qa, qb, qc⟩ := isOf A.hZ A.2.1 E
  obtain ⟨v, _, ⟨T', L1, k1, n1⟩, -, X', ⟨L', ⟨N, K, q⟩, l1, y1, z1⟩, st⟩ := A.1.interfaceBack A.2.2.2.2.1 (xi := y) (y := z) A.2.2.2.1 (mvT A.hZ w1) (mvT A.hZ w2) (mvT A.hZ w3 hfc) (mvT A.hZ w4) (mvT A.hZ w5) (mvT A.hZ w6) (mvT A.hZ w7) (mvT A.hZ w8) hy hK qa qb qc (g := mkF m pc L (argsL.reverse ++ .ref a :: rest)) rfl (hml.trans A.2.2.2.2.2.2.1.symm) (Steps.refl _) (argsL := argsL) (rest := rest) (lenOf pd hal) rfl (by show 2 * 0 + _ ≤ _; omega) (hb A.2.2.2.2.2.1 hd) (fun _ _ => ⟨rfl, A.2.1, hc, hs⟩)
  dsimp only [Pt.U, Pt.locs, Pt.cells, Pt.slots] at X' l1 y1 z1 st N K q
  subst l1 y1 z1
  exact (k v T' T'.heap L' (A.kept X' rfl (A.2.2.2.2.2.2.2.1.app N) K hn sf) K q).gos st
theorem f_clone (A : WS p l e R s m args below meth c Z EL n0 own code ml bw vm T h locs cells slots) {ad : String} {i : Nat} {a : Addr} {kA : ClassId} {ty : FieldType} {z : Int32} {vs : List Value} {dv : Value} (W cap : Nat) (hd : decode code pc = .ok (.invokevirtual i, 3)) (hp : pc + 3 = pc') (w1 : (Cond.methodLink own i ⟨ad, "clone", "()Ljava/lang/Object;"⟩).before a0 Z = true) (w2 : (Cond.sameMethod ad "java/lang/Object" "clone" "()Ljava/lang/Object;").before a0 Z = true) (w3 : (Cond.native ⟨"java/lang/Object", "clone", "()Ljava/lang/Object;"⟩).before a0 Z = true) (w4 : (Cond.instanceMethod ⟨"java/lang/Object", "clone", "()Ljava/lang/Object;"⟩).before a0 Z = true) (w5 : (Cond.selects ad ⟨ad, "clone", "()Ljava/lang/Object;"⟩ ⟨"java/lang/Object", "clone", "()Ljava/lang/Object;"⟩).before a0 Z = true) (w6 : (Cond.castable ad "java/lang/Cloneable").before a0 Z = true)
    (F : Arv Z h a kA ty z vs dv) (E : Exa Z h a ad) (hml : L.size = ml) (hf : 1 ≤ R.frames) (hW : (S.map fun v => v.category).sum ≤ W) (hl : W + 14 ≤ R.locals) (hcap : z.toNatClampNeg ≤ cap) (hc : cells + 1 ≤ R.cells) (hsl : slots + cap ≤ R.slots)
    (k : ∀ (b : Addr) (T' : State) (h' : Heap), b = h.size → WS p l e R s m args below meth c Z EL n0 own code ml bw vm T' h' locs (cells + 1) (slots + cap) → Ext h h' → Arv Z h' b kA ty z vs dv → Exa Z h' b ad → Wp p e below P T' (mkF m pc' L (.ref b :: S))) : Wp p e below P T (mkF m pc L (.ref a :: S)) := by
  subst hp
  obtain ⟨T', h', X', q, E', F', G', st⟩ := cloneH A.1 A.2.2.2.2.1 A.hZ A.2.2.2.1 w1 w2 w3 w4 w5 w6 A.2.1 F.arh E (g := mkF m pc L (.ref a :: S)) rfl (hml.trans A.2.2.2.2.2.2.1.symm) rfl (hb A.2.2.2.2.2.1 hd) hf (W := W) (by show 2 * 0 + _ ≤ _; omega) hl hcap hc hsl
  exact (k _ T' h' rfl (A.grow X' q E') E' F' G').go st
theorem f_arrcpy (A : WS p l e R s m args below meth c Z EL n0 own code ml bw vm T h locs cells slots) {i : Nat} {a b : Addr} {kA kB : ClassId} {ty ty' : FieldType} {z z' sp dp nn : Int32} {vs vd us vd' : List Value} {dv dd : Value} (W : Nat) (hd : decode code pc = .ok (.invokestatic i, 3)) (hp : pc + 3 = pc') (w1 : (Cond.methodLink own i Jvm.Stand.acN).before a0 Z = true) (w2 : (Cond.native Jvm.Stand.acN).before a0 Z = true) (w3 : (Cond.static Jvm.Stand.acN).before a0 Z = true) (w4 : (Cond.initialized "java/lang/System").before a0 Z = true)
    (F : Arv Z h a kA ty z vs dv) (G : Arv Z h b kB ty' z' vd dd) (hty : (ty = ty' ∧ refKind ty = false) ∨ (refKind ty = true ∧ refKind ty' = true ∧ StoL Z h b us)) (h1 : ¬ sp < 0) (h2 : ¬ dp < 0) (h3 : ¬ nn < 0) (h4 : sp.toNatClampNeg + nn.toNatClampNeg ≤ z.toNatClampNeg) (h5 : dp.toNatClampNeg + nn.toNatClampNeg ≤ z'.toNatClampNeg)
    (hus : us = (List.range nn.toNatClampNeg).map fun i => vs.getD (sp.toNatClampNeg + i) dv) (hll : dp.toNatClampNeg + nn.toNatClampNeg ≤ vd.length) (hvd : vd.take dp.toNatClampNeg ++ us ++ vd.drop (dp.toNatClampNeg + nn.toNatClampNeg) = vd') (ge : n0 ≤ b) (sf : bw = true → Safe Z EL vm h b) (hml : L.size = ml) (hf : 1 ≤ R.frames) (hW : (S.map fun v => v.category).sum ≤ W) (hlo : W + (nativeFrameWords "java/lang/System" "arraycopy" 5 + 11) ≤ R.locals)
    (k : ∀ (T' : State) (h' : Heap) (L' : List Loc), WS p l e R s m args below meth c Z EL n0 own code ml bw vm T' h' L' cells slots → Keep h h' [b] → Arv Z h' b kB ty' z' vd' dd → Wp p e below P T' (mkF m pc' L S)) : Wp p e below P T (mkF m pc L (.int nn :: .int dp :: .ref b :: .int sp :: .ref a :: S)) := by
  subst hp hvd
  obtain ⟨T', h', L', X', q, N, K, V, st⟩ := cpA A.1 A.2.2.2.2.1 A.hZ A.2.2.2.1 w1 w2 w3 w4 A.2.1 F G hty h1 h2 h3 h4 h5 hus hll A.2.2.2.2.2.2.2.1 ge (g := mkF m pc L (.int nn :: .int dp :: .ref b :: .int sp :: .ref a :: S)) rfl (hml.trans A.2.2.2.2.2.2.1.symm) rfl (hb A.2.2.2.2.2.1 hd) hf (W := W) (by show 2 * 0 + _ ≤ _; omega) hlo
  exact (k T' h' L' (A.kept X' q N K (allS ge all0) (fun b => sfS (sf b) sf0)) K V).go st
theorem f_instNull (A : WS p l e R s m args below meth c Z EL n0 own code ml bw vm T h locs cells slots) {i : Nat} (hd : decode code pc = .ok (.instanceof i, 3)) (hp : pc + 3 = pc') (k : Wp p e below P T (mkF m pc' L (.int 0 :: S))) : Wp p e below P T (mkF m pc L (.null :: S)) := by
  subst hp; exact k.go fun t q => A.1.instanceofNull A.2.2.2.2.1 (g := mkF m pc L (.null :: S)) rfl rfl (hb A.2.2.2.2.2.1 hd) t q
theorem f_castNull (A : WS p l e R s m args below meth c Z EL n0 own code ml bw vm T h locs cells slots) {i : Nat} (hd : decode code pc = .ok (.checkcast i, 3)) (hp : pc + 3 = pc') (k : Wp p e below P T (mkF m pc' L (.null :: S))) : Wp p e below P T (mkF m pc L (.null :: S)) := by
  subst hp; exact k.go fun t q => A.1.checkcastNull A.2.2.2.2.1 (g := mkF m pc L (.null :: S)) rfl rfl (hb A.2.2.2.2.2.1 hd) t q
theorem f_instNo (A : WS p l e R s m args below meth c Z EL n0 own code ml bw vm T h locs cells slots) {C K : String} {i : Nat} {a : Addr} (hd : decode code pc = .ok (.instanceof i, 3)) (hp : pc + 3 = pc') (w : (Cond.classLink own i K).before a0 Z = true) (E : Exa Z h a C) (F : ∃ c t, Z.vm.findClass C = some c ∧ Z.vm.findClass K = some t ∧ Z.vm.assignable c t = false) (k : ∀ (T' : State), WS p l e R s m args below meth c Z EL n0 own code ml bw vm T' h locs cells slots → Wp p e below P T' (mkF m pc' L (.int 0 :: S))) : Wp p e below P T (mkF m pc L (.ref a :: S)) := by
  subst hp
  obtain ⟨T', X', q, st⟩ := instNo A.1 A.2.2.2.2.1 A.hZ A.2.2.2.1 w A.2.1 E F (g := mkF m pc L (.ref a :: S)) rfl rfl (hb A.2.2.2.2.2.1 hd)
  exact (k T' (A.still X' q)).go st
theorem f_callSW (A : WS p l e R s m args below meth c Z EL n0 own code ml true vm T h locs cells slots) {i : Nat} {y : MethodName} {bytes : ByteArray} {maxL : Nat} {ret : Option FieldType} {wr : List Addr} {Q : Option Value → Heap → Prop} {kc ks : Nat} (hd : decode code pc = .ok (.invokestatic i, 3)) (hp : pc + 3 = pc') (w1 : (Cond.methodLink own i y).before a0 Z = true) (w2 : (Cond.static y).before a0 Z = true) (w3 : (Cond.initialized y.cls).before a0 Z = true) (w4 : (Cond.code y bytes maxL ret).before a0 Z = true) (hy : y.cls ≠ "java/lang/invoke/MethodHandle" ∧ y.cls ≠ "java/lang/invoke/VarHandle")
    {ps : List FieldType} {r : Option FieldType} (pd : parseMethodDescriptor y.desc = some ⟨ps, r⟩) (argsL rest : List Value) (hal : argsL.length = ps.length) (hS : S = argsL.reverse ++ rest) (hml : L.size = ml) (W : Nat) (hW : (rest.map fun v => v.category).sum ≤ W) (hK : BkS l R p e below (s.setVm vm) args y 3 W argsL.toArray h n0 wr Q kc ks Z EL vm) (hc : cells + kc ≤ R.cells) (hs : slots + ks ≤ R.slots) (hn : ∀ x ∈ wr, n0 ≤ x)
    (k : ∀ (v : Option Value) (vm' : Vm) (T' : State) (h' : Heap) (L' : List Loc), WS p l e R s m args below meth c Z EL n0 own code ml true vm' T' h' (locs ++ L') (cells + kc) (slots + ks) → Keep h h' wr → CHr Z EL vm h vm' h' → Q v h' → Wp p e below P T' (mkF m pc' L (v.toList ++ rest))) : Wp p e below P T (mkF m pc L S) := by
  subst hp hS
  obtain ⟨v, _, ⟨T', L1, k1, n1⟩, -, X', hS2, hg2, ⟨L', ⟨N, K, q⟩, l1, y1, z1, hCC⟩, st⟩ := callSS A.1 A.2.2.2.2.1 (y := y) A.2.2.2.1 (mvT A.hZ w1) (mvT A.hZ w2) (mvT A.hZ w3) (mvT A.hZ w4) hy hK (g := mkF m pc L (argsL.reverse ++ rest)) rfl (hml.trans A.2.2.2.2.2.2.1.symm) (argsL := argsL) (rest := rest) (lenOf pd hal) rfl (by show 2 * 0 + _ ≤ _; omega) (hb A.2.2.2.2.2.1 hd) (fun _ _ => ⟨rfl, A.2.1, hc, hs⟩)
  dsimp only [Pt.U, Pt.locs, Pt.cells, Pt.slots] at X' l1 y1 z1 st N K q hS2 hg2 hCC
  subst l1 y1 z1
  obtain ⟨⟨k0, hS, hk⟩, hC⟩ := A.wide
  obtain ⟨X2, hS3, hZ3, ho3⟩ := rebS hS (A.2.1 ▸ hk) X' hS2 hg2 A.hZ A.2.2.2.1
  exact (k v T'.vm T' T'.heap L' ⟨X2, rfl, hZ3, ho3, A.2.2.2.2.1, A.2.2.2.2.2.1, A.2.2.2.2.2.2.1, A.2.2.2.2.2.2.2.1.app N, A.old.keep K hn, Or.inr ⟨rfl, ⟨_, hS3, Nat.le_refl _⟩, hC.trans hCC⟩⟩ K hCC q).gos st
theorem f_callIW (A : WS p l e R s m args below meth c Z EL n0 own code ml true vm T h locs cells slots) {i : Nat} {y : MethodName} {bytes : ByteArray} {maxL : Nat} {a : Addr} {wr : List Addr} {Q : Option Value → Heap → Prop} {kc ks : Nat} (hd : decode code pc = .ok (.invokespecial i, 3)) (hp : pc + 3 = pc') (hy1 : y.name = "<init>") (w1 : (Cond.methodLink own i y).before a0 Z = true) (w2 : (Cond.instanceMethod y).before a0 Z = true) (w4 : (Cond.code y bytes maxL none).before a0 Z = true) (hy : y.cls ≠ "java/lang/invoke/MethodHandle" ∧ y.cls ≠ "java/lang/invoke/VarHandle")
    {ps : List FieldType} {r : Option FieldType} (pd : parseMethodDescriptor y.desc = some ⟨ps, r⟩) (argsL rest : List Value) (hal : argsL.length = ps.length) (hS : S = argsL.reverse ++ .ref a :: rest) (hml : L.size = ml) (W : Nat) (hW : (rest.map fun v => v.category).sum ≤ W) (hK : BkS l R p e below (s.setVm vm) args y 3 W (.ref a :: argsL).toArray h n0 wr Q kc ks Z EL vm) (hc : cells + kc ≤ R.cells) (hs : slots + ks ≤ R.slots) (hn : ∀ x ∈ wr, n0 ≤ x)
    (k : ∀ (v : Option Value) (vm' : Vm) (T' : State) (h' : Heap) (L' : List Loc), WS p l e R s m args below meth c Z EL n0 own code ml true vm' T' h' (locs ++ L') (cells + kc) (slots + ks) → Keep h h' wr → CHr Z EL vm h vm' h' → Q v h' → Wp p e below P T' (mkF m pc' L (v.toList ++ rest))) : Wp p e below P T (mkF m pc L S) := by
  subst hp hS
  obtain ⟨v, _, ⟨T', L1, k1, n1⟩, -, X', hS2, hg2, ⟨L', ⟨N, K, q⟩, l1, y1, z1, hCC⟩, st⟩ := A.1.specialBackS A.2.2.2.2.1 (y := y) hy1 A.2.2.2.1 (mvT A.hZ w1) (mvT A.hZ w2) (mvT A.hZ w4) hy hK (g := mkF m pc L (argsL.reverse ++ .ref a :: rest)) rfl (hml.trans A.2.2.2.2.2.2.1.symm) (Steps.refl _) (a := a) (argsL := argsL) (rest := rest) (lenOf pd hal) rfl (by show 2 * 0 + _ ≤ _; omega) (hb A.2.2.2.2.2.1 hd) (fun _ _ => ⟨rfl, A.2.1, hc, hs⟩)
  dsimp only [Pt.U, Pt.locs, Pt.cells, Pt.slots] at X' l1 y1 z1 st N K q hS2 hg2 hCC
  subst l1 y1 z1
  obtain ⟨⟨k0, hS, hk⟩, hC⟩ := A.wide
  obtain ⟨X2, hS3, hZ3, ho3⟩ := rebS hS (A.2.1 ▸ hk) X' hS2 hg2 A.hZ A.2.2.2.1
  exact (k v T'.vm T' T'.heap L' ⟨X2, rfl, hZ3, ho3, A.2.2.2.2.1, A.2.2.2.2.2.1, A.2.2.2.2.2.2.1, A.2.2.2.2.2.2.2.1.app N, A.old.keep K hn, Or.inr ⟨rfl, ⟨_, hS3, Nat.le_refl _⟩, hC.trans hCC⟩⟩ K hCC q).gos st
theorem f_callVW (A : WS p l e R s m args below meth c Z EL n0 own code ml true vm T h locs cells slots) {i : Nat} {y z : MethodName} {C : String} {a : Addr} {wr : List Addr} {Q : Option Value → Heap → Prop} {kc ks : Nat} (hd : decode code pc = .ok (.invokevirtual i, 3)) (hp : pc + 3 = pc') (w1 : (Cond.methodLink own i y).before a0 Z = true) (w2 : (Cond.declares y).before a0 Z = true) (hnf : NotFace (s.setVm vm) y) (w3 : (Cond.selects C y z).before a0 Z = true) (w4 : (Cond.instanceMethod z).before a0 Z = true) (hy : y.cls ≠ "java/lang/invoke/MethodHandle" ∧ y.cls ≠ "java/lang/invoke/VarHandle") (E : Exa Z h a C)
    {ps : List FieldType} {r : Option FieldType} (pd : parseMethodDescriptor y.desc = some ⟨ps, r⟩) (argsL rest : List Value) (hal : argsL.length = ps.length) (hS : S = argsL.reverse ++ .ref a :: rest) (hml : L.size = ml) (W : Nat) (hW : (rest.map fun v => v.category).sum ≤ W) (hK : BkS l R p e below (s.setVm vm) args z 3 W (.ref a :: argsL).toArray h n0 wr Q kc ks Z EL vm) (hc : cells + kc ≤ R.cells) (hs : slots + ks ≤ R.slots) (hn : ∀ x ∈ wr, n0 ≤ x)
    (k : ∀ (v : Option Value) (vm' : Vm) (T' : State) (h' : Heap) (L' : List Loc), WS p l e R s m args below meth c Z EL n0 own code ml true vm' T' h' (locs ++ L') (cells + kc) (slots + ks) → Keep h h' wr → CHr Z EL vm h vm' h' → Q v h' → Wp p e below P T' (mkF m pc' L (v.toList ++ rest))) : Wp p e below P T (mkF m pc L S) := by
  subst hp hS
  obtain ⟨cq, kq, qa, qb, qc⟩ := isOf A.hZ A.2.1 E
  obtain ⟨v, _, ⟨T', L1, k1, n1⟩, -, X', hS2, hg2, ⟨L', ⟨N, K, q⟩, l1, y1, z1, hCC⟩, st⟩ := A.1.virtualBackS A.2.2.2.2.1 (y := y) (z := z) A.2.2.2.1 (mvT A.hZ w1) (mvT A.hZ w2) hnf (mvT A.hZ w3) (mvT A.hZ w4) hy hK qa qc (g := mkF m pc L (argsL.reverse ++ .ref a :: rest)) rfl (hml.trans A.2.2.2.2.2.2.1.symm) (Steps.refl _) (argsL := argsL) (rest := rest) (lenOf pd hal) rfl (by show 2 * 0 + _ ≤ _; omega) (hb A.2.2.2.2.2.1 hd) (fun _ _ => ⟨rfl, A.2.1, hc, hs⟩)
  dsimp only [Pt.U, Pt.locs, Pt.cells, Pt.slots] at X' l1 y1 z1 st N K q hS2 hg2 hCC
  subst l1 y1 z1
  obtain ⟨⟨k0, hS, hk⟩, hC⟩ := A.wide
  obtain ⟨X2, hS3, hZ3, ho3⟩ := rebS hS (A.2.1 ▸ hk) X' hS2 hg2 A.hZ A.2.2.2.1
  exact (k v T'.vm T' T'.heap L' ⟨X2, rfl, hZ3, ho3, A.2.2.2.2.1, A.2.2.2.2.2.1, A.2.2.2.2.2.2.1, A.2.2.2.2.2.2.2.1.app N, A.old.keep K hn, Or.inr ⟨rfl, ⟨_, hS3, Nat.le_refl _⟩, hC.trans hCC⟩⟩ K hCC q).gos st
/-- the payer, of a contract that may intern -/
theorem CW.pay {y : MethodName} {bytes : ByteArray} {maxL : Nat} {ret : Option FieldType} {rm : Room} {as' : Array Value} {wr SL : List Addr} {Q : Option Value → Heap → Prop} {len W : Nat} (A : WS p l e R s m args below meth c Z EL n0 own code ml true vm T h locs cells slots) (hEL : EW Z a0 EL) (hM : CW l y bytes maxL ret [] rm Z EL SL n0 h as' wr Q) (wc : (Cond.code y bytes maxL ret).before a0 Z = true) (wz : (Cond.initialized y.cls).before a0 Z = true) (hf : rm.frames + 1 ≤ R.frames) (hl : W + (maxL + 11) + rm.locals ≤ R.locals) (hSL : ∀ x ∈ SL, x < h.size ∧ Safe Z EL vm h x) :
    BkS l R p e below (s.setVm vm) args y len W as' h n0 wr Q rm.cells rm.slots Z EL vm :=
  have H := A.wide.2.1
  BackS.of_freeW (bytes := bytes) (maxL := maxL) (ret := ret) (E := fun _ first o t L k n => k = rm.cells ∧ n = rm.slots ∧ (∃ v, o = .returned v ∧ (Fr n0 L ∧ Keep h t.heap wr ∧ Q v t.heap)) ∧ CHr Z EL first.vm first.heap t.vm t.heap) hM hf hl
    (fun m meth c B a Y hp => have hU : Z.Warmed39 B.U.vm := wtrans (s := s.setVm vm) A.hZ Y.warmed
      ⟨by show (Cond.and _ .tt).before a B.U = true; rw [Cond.before_and, mv hU wc]; rfl, mv hU wc, mv hU wz, hp.2.2.1, hp.2.2.2⟩)
    (fun m meth c B a g mk Y hp => ⟨hp.1, wtrans (s := s.setVm vm) A.hZ Y.warmed, hp.2.1, (CHv.at Y A.hZ hEL H).1, fun x hx => (CHv.at Y A.hZ hEL H).safe (hSL x hx).1 (hSL x hx).2⟩) (fun _ _ _ _ _ _ _ _ _ => trivial)
    (fun _ _ _ _ ⟨v, L, h1, h2, h3, h4⟩ => ⟨L, _, _, h4, rfl, rfl, ⟨v, h1, h2⟩, h3⟩)
    (fun m meth c B a g mk v t L k n Y hp _ _ ⟨e1, e2, ⟨v', e3, e4⟩, e5⟩ => by
      cases e3; subst e1 e2
      refine ⟨L, e4, rfl, rfl, rfl, (CHv.at Y A.hZ hEL H).trans ?_⟩
      rw [← hp.2.1]; exact e5)
end OwnKit
end Jvm.Pilot.@@N@@
/- laws to paste: Road.backV, Road.lenW, Road.chN, Road.codOf (cut by pick.py; bodies as the Statement names them) -/
namespace Jvm.Pilot.@@N@@
namespace StrChars
open Jvm Sem ClassFile Op Lib Jvm.Stand Jvm.Free.XT Jvm.Free.ALB Jvm.Free.JM Jvm.Free
open Jvm.Lib.Cold (StaticIs)
/-- a char array whose places are chars -/
def Ch (a : Addr) (A : Cell) (U : State) : Prop := Arr .char a A U ∧ Typed .char A
theorem Ch.mv {a : Addr} {A : Cell} {U U' : State} (h : Ch a A U) (hal : U.vm.Alike U'.vm) (hh : U'.heap = U.heap) : Ch a A U' := ⟨h.1.mv hal hh, h.2⟩
theorem Ch.keep {a : Addr} {A : Cell} {U U' : State} (h : Ch a A U) (hal : U.vm.Alike U'.vm) (hk : U'.heap[a]? = some A) : Ch a A U' := ⟨h.1.keep hal hk, h.2⟩
/-- what place i of a char[]'s cell holds -/
def cv (A : Cell) (i : Nat) : Int32 := match A.slots[i]? with | some (.int x) => x | _ => 0
theorem Ch.get {a : Addr} {A : Cell} {U : State} (h : Ch a A U) {i : Nat} (hi : i < A.slots.size) : A.slots[i]? = some (.int (cv A i)) := by
  have e := Array.getElem?_eq_getElem hi
  have f := h.2 i _ e
  unfold cv; rw [e]
  generalize A.slots[i] = v at f
  cases v <;> simp [fits] at f ⊢
/-- the byte that i2b leaves of a char -/
def lo8 (x : Int32) : Int32 := x.toInt8.toInt32
theorem fits_lo8 (y : Int32) : fits .byte (.int (lo8 y)) = true := by
  have h1 := y.toInt8.le_toInt
  have h2 := y.toInt8.toInt_lt
  simp only [lo8, fits, Bool.and_eq_true, decide_eq_true_eq, Int32.le_iff_toInt_le, Int8.toInt_toInt32, show (-128 : Int32).toInt = -128 from by decide, show (127 : Int32).toInt = 127 from by decide]
  omega
/-- A' is A but that each place j of lo .. hi - 1 holds f j -/
def Laid (A A' : Cell) (lo hi : Nat) (f : Nat → Value) : Prop := A'.cls = A.cls ∧ A'.vm = A.vm ∧ A'.slots.size = A.slots.size ∧ ∀ i, A'.slots[i]? = if lo ≤ i ∧ i < hi then some (f i) else A.slots[i]?
theorem Laid.zero (A : Cell) (lo : Nat) (f : Nat → Value) : Laid A A lo (lo + 0) f := ⟨rfl, rfl, rfl, fun i => by rw [if_neg (by omega)]⟩
theorem Laid.step {A Ak : Cell} {lo k : Nat} {f : Nat → Value} {v : Value} (h : Laid A Ak lo k f) (hlo : lo ≤ k) (hk : k < Ak.slots.size) (hv : v = f k) : Laid A (Ak.setSlot k v) lo (k + 1) f := by
  refine ⟨h.1, h.2.1, by simpa [Cell.setSlot] using h.2.2.1, fun i => ?_⟩
  by_cases e : k = i
  · subst e; rw [Cell.slots_setSlot_self v hk, if_pos (by omega), hv]
  · rw [Cell.slots_setSlot_ne v e, h.2.2.2 i]
    by_cases q : lo ≤ i ∧ i < k
    · rw [if_pos q, if_pos (by omega)]
    · rw [if_neg q, if_neg (by omega)]
def U16 : String := "java/lang/StringUTF16"
namespace Cmp5
def yN : MethodName := ⟨"java/lang/StringUTF16", "compress", "([CI[BII)I"⟩
abbrev yB : ByteArray := jdk_52_method_21_code
theorem d0 : decode yB 0 = .ok (.iconst 0, 1) := by decide +kernel
theorem d1 : decode yB 1 = .ok (.istore 5, 2) := by decide +kernel
theorem d3 : decode yB 3 = .ok (.iload 5, 2) := by decide +kernel
theorem d5 : decode yB 5 = .ok (.iload 4, 2) := by decide +kernel
theorem d7 : decode yB 7 = .ok (.if_icmp (.ge) 37, 3) := by decide +kernel
theorem d10 : decode yB 10 = .ok (.aload_n 0, 1) := by decide +kernel
theorem d11 : decode yB 11 = .ok (.iload_n 1, 1) := by decide +kernel
theorem d12 : decode yB 12 = .ok (.caload, 1) := by decide +kernel
theorem d13 : decode yB 13 = .ok (.istore 6, 2) := by decide +kernel
theorem d15 : decode yB 15 = .ok (.iload 6, 2) := by decide +kernel
theorem d17 : decode yB 17 = .ok (.sipush 255, 3) := by decide +kernel
theorem d20 : decode yB 20 = .ok (.if_icmp (.le) 6, 3) := by decide +kernel
theorem d26 : decode yB 26 = .ok (.aload_n 2, 1) := by decide +kernel
theorem d27 : decode yB 27 = .ok (.iload_n 3, 1) := by decide +kernel
theorem d28 : decode yB 28 = .ok (.iload 6, 2) := by decide +kernel
theorem d30 : decode yB 30 = .ok (.i2b, 1) := by decide +kernel
theorem d31 : decode yB 31 = .ok (.bastore, 1) := by decide +kernel
theorem d32 : decode yB 32 = .ok (.iinc 1 1, 3) := by decide +kernel
theorem d35 : decode yB 35 = .ok (.iinc 3 1, 3) := by decide +kernel
theorem d38 : decode yB 38 = .ok (.iinc 5 1, 3) := by decide +kernel
theorem d41 : decode yB 41 = .ok (.goto (-38), 3) := by decide +kernel
theorem d44 : decode yB 44 = .ok (.iload 4, 2) := by decide +kernel
theorem d46 : decode yB 46 = .ok (.ireturn, 1) := by decide +kernel
def site : List Cond := []
def tab : Cond := tabOf yN yB 7 (some .int) site
def P (b : Addr) (A : Cell) (d : Addr) (B : Cell) (o q len : Nat) (args : Array Value) (s : State) : Prop := args = #[.ref b, .int (Int32.ofNat o), .ref d, .int (Int32.ofNat q), .int (Int32.ofNat len)] ∧ Ch b A s ∧ Arr .byte d B s ∧ b ≠ d ∧ o + len ≤ A.slots.size ∧ q + len ≤ B.slots.size ∧ ∀ i, i < len → ¬ 255 < cv A (o + i)
def E (b : Addr) (A : Cell) (d : Addr) (B : Cell) (o q len : Nat) (r : Option Value) (s u : State) : Prop := r = some (.int (Int32.ofNat len)) ∧ ∃ B', Put d B' s u ∧ Laid B B' q (q + len) (fun j => Value.int (lo8 (cv A (o + (j - q)))))
/-- no char of the range above 255: len; the places written hold each char's low byte -/
theorem law (l : Launch) (b : Addr) (A : Cell) (d : Addr) (B : Cell) (o q len : Nat) : Law l yN 5 5 0 0 yB 7 (some .int) site (P b A d B o q len) (E b A d B o q len) (copyLocs d q len) 0 0 := by
  refine Law.of_walk (plainFor_of_name (by decide +kernel)) (by decide +kernel) (by decide +kernel) (by decide) (fun _ _ h => by rw [h.1]; rfl) (fun _ U U' hal hh h => ⟨h.1, h.2.1.mv hal hh, h.2.2.1.mv hal hh, h.2.2.2⟩) (fun r U U' V V' h1 hal h2 h => ⟨h.1, h.2.elim fun B' q => ⟨B', q.1.mv h1 h2, q.2⟩⟩) ?_
  intro p e s m args below meth c s₁ X0 hexec hbytes hml hret hlk hnm hown hh0 W hP
  obtain ⟨rfl, hA, hB, hne, l1, l2, hp⟩ := hP
  have c1 : Steps p.tables e below (s₁.setTop (entryFrame m #[.ref b, .int (Int32.ofNat o), .ref d, .int (Int32.ofNat q), .int (Int32.ofNat len)] 7)) (s₁.setTop (mkF m 0 #[.val (.ref b), .val (.int (Int32.ofNat o)), .val (.ref d), .val (.int (Int32.ofNat q)), .val (.int (Int32.ofNat len)), .unset, .unset] [])) := entry rfl
  have hA0 := hA.1.mv X0.warmed.alike hh0
  have hB0 := hB.mv X0.warmed.alike hh0
  have a31 := hA.1.2.2.2
  have c2 : Steps p.tables e below (s₁.setTop (entryFrame m #[.ref b, .int (Int32.ofNat o), .ref d, .int (Int32.ofNat q), .int (Int32.ofNat len)] 7)) (s₁.setTop (mkF m 3 #[.val (.ref b), .val (.int (Int32.ofNat o)), .val (.ref d), .val (.int (Int32.ofNat q)), .val (.int (Int32.ofNat len)), .val (.int 0), .unset] [])) := c1.trans (by
    refine iconstV X0.here hexec rfl 0 (hb hbytes d0) (by decide) ?_
    refine XS.istore X0.here hexec rfl (hb hbytes d1) rfl rfl ?_
    exact Steps.refl _)
  have loop : ∀ (r i : Nat), i + r = len → ∀ (z : Slot), (z = .unset ∨ ∃ w, z = .val w ∧ w.category = 1) → ∀ (Tl : State) (Bk : Cell), Stand p l e { frames := 0, locals := 0, cells := 0, slots := 0 } s m #[.ref b, .int (Int32.ofNat o), .ref d, .int (Int32.ofNat q), .int (Int32.ofNat len)] below meth c Tl ([] ++ copyLocs d q i) 0 0 → Put d Bk s₁ Tl → Laid B Bk q (q + i) (fun j => Value.int (lo8 (cv A (o + (j - q))))) →
      Steps p.tables e below (s₁.setTop (entryFrame m #[.ref b, .int (Int32.ofNat o), .ref d, .int (Int32.ofNat q), .int (Int32.ofNat len)] 7)) (Tl.setTop (mkF m 3 #[.val (.ref b), .val (.int (Int32.ofNat (o + i))), .val (.ref d), .val (.int (Int32.ofNat (q + i))), .val (.int (Int32.ofNat len)), .val (.int (Int32.ofNat i)), z] [])) → ∃ (T' : State) (B' : Cell) (z' : Slot), Stand p l e { frames := 0, locals := 0, cells := 0, slots := 0 } s m #[.ref b, .int (Int32.ofNat o), .ref d, .int (Int32.ofNat q), .int (Int32.ofNat len)] below meth c T' ([] ++ copyLocs d q len) 0 0 ∧ Put d B' s₁ T' ∧ Laid B B' q (q + len) (fun j => Value.int (lo8 (cv A (o + (j - q))))) ∧
      Steps p.tables e below (s₁.setTop (entryFrame m #[.ref b, .int (Int32.ofNat o), .ref d, .int (Int32.ofNat q), .int (Int32.ofNat len)] 7)) (T'.setTop (mkF m 3 #[.val (.ref b), .val (.int (Int32.ofNat (o + len))), .val (.ref d), .val (.int (Int32.ofNat (q + len))), .val (.int (Int32.ofNat len)), .val (.int (Int32.ofNat len)), z'] [])) := by
    intro r
    induction r with
    | zero =>
      intro i hi z hz Tl Bk Xl pl fl cl
      have hil : i = len := by omega
      rw [hil] at Xl fl cl
      exact ⟨Tl, Bk, z, Xl, pl, fl, cl⟩
    | succ r ih =>
      intro i hi z hz Tl Bk Xl pl fl cl
      have all := X0.warmed.alike.symm.trans Xl.warmed.alike
      have hAl := hA0.keep all (pl.other hne hA0.1)
      have hBk := hB0.like all pl.1 fl.1 fl.2.1 fl.2.2.1
      have hlt : q + i < Bk.slots.size := by rw [fl.2.2.1]; omega
      have c3 : Steps p.tables e below (s₁.setTop (entryFrame m #[.ref b, .int (Int32.ofNat o), .ref d, .int (Int32.ofNat q), .int (Int32.ofNat len)] 7)) (Tl.setTop (mkF m 12 #[.val (.ref b), .val (.int (Int32.ofNat (o + i))), .val (.ref d), .val (.int (Int32.ofNat (q + i))), .val (.int (Int32.ofNat len)), .val (.int (Int32.ofNat i)), z] [.int (Int32.ofNat (o + i)), .ref b])) := cl.trans (by
        refine XS.iload Xl.here hexec rfl (hb hbytes d3) rfl ?_
        refine XS.iload Xl.here hexec rfl (hb hbytes d5) rfl ?_
        refine XS.icmpNo Xl.here hexec rfl (hb hbytes d7) rfl (ii_ge_f (lt32 (by omega) (by omega))) ?_
        refine XS.aloadN Xl.here hexec rfl (hb hbytes d10) rfl rfl ?_
        refine XS.iloadN Xl.here hexec rfl (hb hbytes d11) rfl ?_
        exact Steps.refl _)
      have c4 : Steps p.tables e below (s₁.setTop (entryFrame m #[.ref b, .int (Int32.ofNat o), .ref d, .int (Int32.ofNat q), .int (Int32.ofNat len)] 7)) (Tl.setTop (mkF m 13 #[.val (.ref b), .val (.int (Int32.ofNat (o + i))), .val (.ref d), .val (.int (Int32.ofNat (q + i))), .val (.int (Int32.ofNat len)), .val (.int (Int32.ofNat i)), z] [.int (cv A (o + i))])) := c3.trans (by
        refine Xl.aget hexec hAl rfl (hA.get (i := o + i) (by omega)) rfl rfl (hb hbytes d12) ?_
        exact Steps.refl _)
      have c5 : Steps p.tables e below (s₁.setTop (entryFrame m #[.ref b, .int (Int32.ofNat o), .ref d, .int (Int32.ofNat q), .int (Int32.ofNat len)] 7)) (Tl.setTop (mkF m 15 #[.val (.ref b), .val (.int (Int32.ofNat (o + i))), .val (.ref d), .val (.int (Int32.ofNat (q + i))), .val (.int (Int32.ofNat len)), .val (.int (Int32.ofNat i)), .val (.int (cv A (o + i)))] [])) := c4.trans (by
        refine XS.istoreS Xl.here hexec rfl (hb hbytes d13) rfl rfl hz ?_
        exact Steps.refl _)
      have c6 : Steps p.tables e below (s₁.setTop (entryFrame m #[.ref b, .int (Int32.ofNat o), .ref d, .int (Int32.ofNat q), .int (Int32.ofNat len)] 7)) (Tl.setTop (mkF m 31 #[.val (.ref b), .val (.int (Int32.ofNat (o + i))), .val (.ref d), .val (.int (Int32.ofNat (q + i))), .val (.int (Int32.ofNat len)), .val (.int (Int32.ofNat i)), .val (.int (cv A (o + i)))] [.int (lo8 (cv A (o + i))), .int (Int32.ofNat (q + i)), .ref d])) := c5.trans (by
        refine XS.iload Xl.here hexec rfl (hb hbytes d15) rfl ?_
        refine sipushV Xl.here hexec rfl 255 (hb hbytes d17) (by decide) ?_
        refine XS.icmpYes Xl.here hexec rfl (pc0 := 20) rfl (hb hbytes d20) rfl (ii_le_t (hp i (by omega))) (by decide) rfl ?_
        refine XS.aloadN Xl.here hexec rfl (hb hbytes d26) rfl rfl ?_
        refine XS.iloadN Xl.here hexec rfl (hb hbytes d27) rfl ?_
        refine XS.iload Xl.here hexec rfl (hb hbytes d28) rfl ?_
        refine i2b Xl.here hexec rfl (hb hbytes d30) rfl ?_
        exact Steps.refl _)
      obtain ⟨T7, X7, p7, st7⟩ := Xl.aput hexec hBk rfl hlt rfl (fits_lo8 (cv A (o + i))) (g := (mkF m 31 #[.val (.ref b), .val (.int (Int32.ofNat (o + i))), .val (.ref d), .val (.int (Int32.ofNat (q + i))), .val (.int (Int32.ofNat len)), .val (.int (Int32.ofNat i)), .val (.int (cv A (o + i)))] [.int (lo8 (cv A (o + i))), .int (Int32.ofNat (q + i)), .ref d])) rfl (rest := []) rfl (hb hbytes d31)
      have c8 : Steps p.tables e below (s₁.setTop (entryFrame m #[.ref b, .int (Int32.ofNat o), .ref d, .int (Int32.ofNat q), .int (Int32.ofNat len)] 7)) (T7.setTop (mkF m 32 #[.val (.ref b), .val (.int (Int32.ofNat (o + i))), .val (.ref d), .val (.int (Int32.ofNat (q + i))), .val (.int (Int32.ofNat len)), .val (.int (Int32.ofNat i)), .val (.int (cv A (o + i)))] [])) := c6.trans (st7 _ (Steps.refl _))
      have c9 : Steps p.tables e below (s₁.setTop (entryFrame m #[.ref b, .int (Int32.ofNat o), .ref d, .int (Int32.ofNat q), .int (Int32.ofNat len)] 7)) (T7.setTop (mkF m 3 #[.val (.ref b), .val (.int (Int32.ofNat (o + i) + 1)), .val (.ref d), .val (.int (Int32.ofNat (q + i) + 1)), .val (.int (Int32.ofNat len)), .val (.int (Int32.ofNat i + 1)), .val (.int (cv A (o + i)))] [])) := c8.trans (by
        refine iincV X7.here hexec rfl 1 (hb hbytes d32) (by decide) rfl rfl ?_
        refine iincV X7.here hexec rfl 1 (hb hbytes d35) (by decide) rfl rfl ?_
        refine iincV X7.here hexec rfl 1 (hb hbytes d38) (by decide) rfl rfl ?_
        refine XS.goto X7.here hexec rfl (pc0 := 41) rfl (hb hbytes d41) (by decide) rfl ?_
        exact Steps.refl _)
      have c10 : Steps p.tables e below (s₁.setTop (entryFrame m #[.ref b, .int (Int32.ofNat o), .ref d, .int (Int32.ofNat q), .int (Int32.ofNat len)] 7)) (T7.setTop (mkF m 3 #[.val (.ref b), .val (.int (Int32.ofNat (o + (i + 1)))), .val (.ref d), .val (.int (Int32.ofNat (q + (i + 1)))), .val (.int (Int32.ofNat len)), .val (.int (Int32.ofNat (i + 1))), .val (.int (cv A (o + i)))] [])) := by
        have := c9
        rw [succ32, succ32, succ32] at this
        exact this
      exact ih (i + 1) (by omega) _ (Or.inr ⟨_, rfl, rfl⟩) T7 _ (by rw [copyLocs_step, ← List.append_assoc]; exact X7) (pl.trans p7) (fl.step (by omega) hlt (by simp)) c10
  obtain ⟨T9, B9, z9, X9, p9, f9, g9⟩ := loop len 0 (by omega) .unset (Or.inl rfl) s₁ B (by simpa [copyLocs] using X0) ⟨hB0.1, fun _ _ => rfl, rfl⟩ (Laid.zero _ _ _) c2
  have c11 : Steps p.tables e below (s₁.setTop (entryFrame m #[.ref b, .int (Int32.ofNat o), .ref d, .int (Int32.ofNat q), .int (Int32.ofNat len)] 7)) (T9.setTop (mkF m 46 #[.val (.ref b), .val (.int (Int32.ofNat (o + len))), .val (.ref d), .val (.int (Int32.ofNat (q + len))), .val (.int (Int32.ofNat len)), .val (.int (Int32.ofNat len)), z9] [.int (Int32.ofNat len)])) := g9.trans (by
    refine XS.iload X9.here hexec rfl (hb hbytes d3) rfl ?_
    refine XS.iload X9.here hexec rfl (hb hbytes d5) rfl ?_
    refine XS.icmpYes X9.here hexec rfl (pc0 := 7) rfl (hb hbytes d7) rfl (ii_ge_t (nlt32 (by omega) (Nat.le_refl _))) (by decide) rfl ?_
    refine XS.iload X9.here hexec rfl (hb hbytes d44) rfl ?_
    exact Steps.refl _)
  exact ⟨T9, some (.int (Int32.ofNat len)), _, _, _, X9, by simp, rfl, rfl, (fun h => by cases h), ⟨rfl, B9, p9.from hh0, f9⟩, fun fs hl => c11.trans (X9.ireturnOut hexec hret rfl (Or.inl rfl) (hb hbytes d46) hl)⟩
end Cmp5
namespace Cmp3
def yN : MethodName := ⟨"java/lang/StringUTF16", "compress", "([CII)[B"⟩
abbrev yB : ByteArray := jdk_52_method_16_code
theorem d0 : decode yB 0 = .ok (.iload_n 2, 1) := by decide +kernel
theorem d1 : decode yB 1 = .ok (.newarray .byte, 2) := by decide +kernel
theorem d3 : decode yB 3 = .ok (.astore_n 3, 1) := by decide +kernel
theorem d4 : decode yB 4 = .ok (.aload_n 0, 1) := by decide +kernel
theorem d5 : decode yB 5 = .ok (.iload_n 1, 1) := by decide +kernel
theorem d6 : decode yB 6 = .ok (.aload_n 3, 1) := by decide +kernel
theorem d7 : decode yB 7 = .ok (.iconst 0, 1) := by decide +kernel
theorem d8 : decode yB 8 = .ok (.iload_n 2, 1) := by decide +kernel
theorem d9 : decode yB 9 = .ok (.invokestatic 115, 3) := by decide +kernel
theorem d12 : decode yB 12 = .ok (.istore 4, 2) := by decide +kernel
theorem d14 : decode yB 14 = .ok (.iload 4, 2) := by decide +kernel
theorem d16 : decode yB 16 = .ok (.iload_n 2, 1) := by decide +kernel
theorem d17 : decode yB 17 = .ok (.if_icmp (.eq) 40, 3) := by decide +kernel
theorem d57 : decode yB 57 = .ok (.aload_n 3, 1) := by decide +kernel
theorem d58 : decode yB 58 = .ok (.areturn, 1) := by decide +kernel
def site : List Cond := [.arrayClass .byte, Cmp5.tab] ++ staticW U16 115 Cmp5.yN
def tab : Cond := tabOf yN yB 6 (some (.array .byte)) site
def P (b : Addr) (A : Cell) (o len : Nat) (args : Array Value) (s : State) : Prop := args = #[.ref b, .int (Int32.ofNat o), .int (Int32.ofNat len)] ∧ Ch b A s ∧ o + len ≤ A.slots.size ∧ len ≤ 536870912 ∧ ∀ i, i < len → ¬ 255 < cv A (o + i)
def E (b : Addr) (A : Cell) (o len : Nat) (r : Option Value) (s u : State) : Prop := NewArr .byte "[B" len (fun j => .int (lo8 (cv A (o + j)))) r s u ∧ u.heap.size = s.heap.size + 1
/-- no char of the range above 255: a new byte[] of their low bytes -/
theorem law (l : Launch) (b : Addr) (A : Cell) (o len : Nat) : Law l yN 3 3 1 18 yB 6 (some (.array .byte)) site (P b A o len) (E b A o len) [] 1 len := by
  refine Law.of_walk (plainFor_of_name (by decide +kernel)) (by decide +kernel) (by decide +kernel) (by decide) (fun _ _ h => by rw [h.1]; rfl) (fun _ U U' hal hh h => ⟨h.1, h.2.1.mv hal hh, h.2.2⟩) (fun r U U' V V' h1 hal h2 h => ⟨NewArr.mv r U U' V V' h1 hal h2 h.1, by rw [h1, h2]; exact h.2⟩) ?_
  intro p e s m args below meth c s₁ X0 hexec hbytes hml hret hlk hnm hown hh0 W hP
  obtain ⟨rfl, hA, l1, l2, hp⟩ := hP
  have a31 := hA.1.2.2.2
  have c1 : Steps p.tables e below (s₁.setTop (entryFrame m #[.ref b, .int (Int32.ofNat o), .int (Int32.ofNat len)] 6)) (s₁.setTop (mkF m 0 #[.val (.ref b), .val (.int (Int32.ofNat o)), .val (.int (Int32.ofNat len)), .unset, .unset, .unset] [])) := entry rfl
  have c2 : Steps p.tables e below (s₁.setTop (entryFrame m #[.ref b, .int (Int32.ofNat o), .int (Int32.ofNat len)] 6)) (s₁.setTop (mkF m 1 #[.val (.ref b), .val (.int (Int32.ofNat o)), .val (.int (Int32.ofNat len)), .unset, .unset, .unset] [.int (Int32.ofNat len)])) := c1.trans (by
    refine XS.iloadN X0.here hexec rfl (hb hbytes d0) rfl ?_
    exact Steps.refl _)
  obtain ⟨T3, B3, X3, ba3, bs3, bv3, bh3, bf3, st3⟩ := X0.anew hexec (atype := .byte) (wk W (.arrayClass .byte)) rfl (by show len * 1 ≤ _; omega) (by omega) (g := (mkF m 1 #[.val (.ref b), .val (.int (Int32.ofNat o)), .val (.int (Int32.ofNat len)), .unset, .unset, .unset] [.int (Int32.ofNat len)])) rfl (hb hbytes d1) (rest := []) rfl (Nat.le_refl _) (by show 0 + len ≤ len; omega)
  rw [hh0] at ba3 st3
  have kp3 : XT.Kept s T3 := (XT.Kept.of_eq hh0).push bh3
  have hA3 := hA.keep X3.warmed.alike (kp3 _ _ hA.1.1)
  have hne : b ≠ s.heap.size := hA.1.ne
  have c4 : Steps p.tables e below (s₁.setTop (entryFrame m #[.ref b, .int (Int32.ofNat o), .int (Int32.ofNat len)] 6)) (T3.setTop (mkF m 3 #[.val (.ref b), .val (.int (Int32.ofNat o)), .val (.int (Int32.ofNat len)), .unset, .unset, .unset] [.ref s.heap.size])) := c2.trans (st3 _ (Steps.refl _))
  have c5 : Steps p.tables e below (s₁.setTop (entryFrame m #[.ref b, .int (Int32.ofNat o), .int (Int32.ofNat len)] 6)) (T3.setTop (mkF m 9 #[.val (.ref b), .val (.int (Int32.ofNat o)), .val (.int (Int32.ofNat len)), .val (.ref s.heap.size), .unset, .unset] [.int (Int32.ofNat len), .int 0, .ref s.heap.size, .int (Int32.ofNat o), .ref b])) := c4.trans (by
    refine XS.astoreN X3.here hexec rfl (hb hbytes d3) rfl rfl rfl ?_
    refine XS.aloadN X3.here hexec rfl (hb hbytes d4) rfl rfl ?_
    refine XS.iloadN X3.here hexec rfl (hb hbytes d5) rfl ?_
    refine XS.aloadN X3.here hexec rfl (hb hbytes d6) rfl rfl ?_
    refine iconstV X3.here hexec rfl 0 (hb hbytes d7) (by decide) ?_
    refine XS.iloadN X3.here hexec rfl (hb hbytes d8) rfl ?_
    exact Steps.refl _)
  obtain ⟨v6, T6, X6, E6, g6⟩ := X3.callS hexec (Cmp5.law l b A s.heap.size B3 o 0 len) hown (wks W (staticW U16 115 Cmp5.yN)) (wk W Cmp5.tab) (W := 0) (Nat.le_of_ble_eq_true rfl) (Nat.le_of_ble_eq_true rfl) (Nat.le_refl _) (by show 0 + len + 0 ≤ len; omega) (g := (mkF m 9 #[.val (.ref b), .val (.int (Int32.ofNat o)), .val (.int (Int32.ofNat len)), .val (.ref s.heap.size), .unset, .unset] [.int (Int32.ofNat len), .int (Int32.ofNat 0), .ref s.heap.size, .int (Int32.ofNat o), .ref b])) rfl (by rw [hml]; rfl) c5 (argsL := [.ref b, .int (Int32.ofNat o), .ref s.heap.size, .int (Int32.ofNat 0), .int (Int32.ofNat len)]) (rest := []) rfl rfl (by show 2 * 0 + 0 ≤ _; decide) (hb hbytes d9) (⟨rfl, hA3, ba3, hne, l1, by rw [bs3]; simp, hp⟩)
  obtain ⟨rfl, B6, p6, f6⟩ := E6
  have c7 : Steps p.tables e below (s₁.setTop (entryFrame m #[.ref b, .int (Int32.ofNat o), .int (Int32.ofNat len)] 6)) (T6.setTop (mkF m 12 #[.val (.ref b), .val (.int (Int32.ofNat o)), .val (.int (Int32.ofNat len)), .val (.ref s.heap.size), .unset, .unset] [.int (Int32.ofNat len)])) := g6
  have c8 : Steps p.tables e below (s₁.setTop (entryFrame m #[.ref b, .int (Int32.ofNat o), .int (Int32.ofNat len)] 6)) (T6.setTop (mkF m 58 #[.val (.ref b), .val (.int (Int32.ofNat o)), .val (.int (Int32.ofNat len)), .val (.ref s.heap.size), .val (.int (Int32.ofNat len)), .unset] [.ref s.heap.size])) := c7.trans (by
    refine XS.istore X6.here hexec rfl (hb hbytes d12) rfl rfl ?_
    refine XS.iload X6.here hexec rfl (hb hbytes d14) rfl ?_
    refine XS.iloadN X6.here hexec rfl (hb hbytes d16) rfl ?_
    refine XS.icmpYes X6.here hexec rfl (pc0 := 17) rfl (hb hbytes d17) rfl (ii_eq_t rfl) (by decide) rfl ?_
    refine XS.aloadN X6.here hexec rfl (hb hbytes d57) rfl rfl ?_
    exact Steps.refl _)
  have X8 := X6.wide (L' := []) (cells' := 1) (slots' := len) (fun x hx hlt => by
    simp only [List.nil_append, copyLocs, List.mem_map, List.mem_range] at hx
    obtain ⟨i, -, rfl⟩ := hx
    exact absurd hlt (Nat.lt_irrefl _)) (Nat.le_refl _) (by omega)
  exact ⟨T6, some (.ref s.heap.size), _, _, _, X8, rfl, rfl, rfl, (fun h => by cases h), ⟨⟨rfl, B6, ba3.like (X3.warmed.alike.symm.trans X6.warmed.alike) p6.1 f6.1 f6.2.1 f6.2.2.1, f6.2.1.trans bv3, by rw [X6.warmed.alike.findClass, f6.1]; exact bf3, by rw [f6.2.2.1, bs3]; simp, fun j hj => by rw [f6.2.2.2 j, if_pos (by omega)]; rfl, kp3.put p6 (Nat.le_refl _)⟩, by rw [p6.2.2, bh3, hh0]; simp⟩, fun fs hl => c8.trans (X8.areturnOut hexec rfl hret rfl (hb hbytes d58) hl)⟩
end Cmp3
namespace CodL
def yN : MethodName := ⟨"java/lang/StringUTF16", "coderFromArrayLen", "([BI)B"⟩
abbrev yB : ByteArray := jdk_52_method_15_code
theorem d0 : decode yB 0 = .ok (.iload_n 1, 1) := by decide +kernel
theorem d1 : decode yB 1 = .ok (.aload_n 0, 1) := by decide +kernel
theorem d2 : decode yB 2 = .ok (.arraylength, 1) := by decide +kernel
theorem d3 : decode yB 3 = .ok (.isub, 1) := by decide +kernel
theorem d4 : decode yB 4 = .ok (.bipush 31, 2) := by decide +kernel
theorem d6 : decode yB 6 = .ok (.iushr, 1) := by decide +kernel
theorem d7 : decode yB 7 = .ok (.i2b, 1) := by decide +kernel
theorem d8 : decode yB 8 = .ok (.ireturn, 1) := by decide +kernel
def site : List Cond := []
def tab : Cond := tabOf yN yB 2 (some .byte) site
def P (d : Addr) (B : Cell) (args : Array Value) (s : State) : Prop := args = #[.ref d, .int (Int32.ofNat B.slots.size)] ∧ Arr .byte d B s
def E (r : Option Value) (s u : State) : Prop := XT.PureE (some (.int 0)) r s u
/-- an array as long as the number of chars: LATIN1 -/
theorem law (l : Launch) (d : Addr) (B : Cell) : Law l yN 2 2 0 0 yB 2 (some .byte) site (P d B) E [] 0 0 := by
  refine Law.of_walk (plainFor_of_name (by decide +kernel)) (by decide +kernel) (by decide +kernel) (by decide) (fun _ _ h => by rw [h.1]; rfl) (fun _ U U' hal hh h => ⟨h.1, h.2.mv hal hh⟩) (fun r U U' V V' h1 hal h2 h => XT.PureE.mv r U U' V V' h1 hal h2 h) ?_
  intro p e s m args below meth c s₁ X0 hexec hbytes hml hret hlk hnm hown hh0 W hP
  obtain ⟨rfl, hB⟩ := hP
  have hB0 := hB.mv X0.warmed.alike hh0
  have c1 : Steps p.tables e below (s₁.setTop (entryFrame m #[.ref d, .int (Int32.ofNat B.slots.size)] 2)) (s₁.setTop (mkF m 0 #[.val (.ref d), .val (.int (Int32.ofNat B.slots.size))] [])) := entry rfl
  have c2 : Steps p.tables e below (s₁.setTop (entryFrame m #[.ref d, .int (Int32.ofNat B.slots.size)] 2)) (s₁.setTop (mkF m 2 #[.val (.ref d), .val (.int (Int32.ofNat B.slots.size))] [.ref d, .int (Int32.ofNat B.slots.size)])) := c1.trans (by
    refine XS.iloadN X0.here hexec rfl (hb hbytes d0) rfl ?_
    refine XS.aloadN X0.here hexec rfl (hb hbytes d1) rfl rfl ?_
    exact Steps.refl _)
  have c3 : Steps p.tables e below (s₁.setTop (entryFrame m #[.ref d, .int (Int32.ofNat B.slots.size)] 2)) (s₁.setTop (mkF m 8 #[.val (.ref d), .val (.int (Int32.ofNat B.slots.size))] [.int (lo8 (ushr (Int32.ofNat B.slots.size - Int32.ofNat B.slots.size) 31))])) := c2.trans (by
    refine X0.alen hexec hB0 rfl rfl (hb hbytes d2) ?_
    refine XS.isub X0.here hexec rfl (hb hbytes d3) rfl ?_
    refine bipushV X0.here hexec rfl 31 (hb hbytes d4) (by decide) ?_
    refine iushr X0.here hexec rfl (hb hbytes d6) rfl ?_
    refine i2b X0.here hexec rfl (hb hbytes d7) rfl ?_
    exact Steps.refl _)
  have e0 : lo8 (ushr (Int32.ofNat B.slots.size - Int32.ofNat B.slots.size) 31) = 0 := by rw [Int32.sub_self]; decide
  rw [e0] at c3
  exact ⟨s₁, some (.int 0), _, _, _, X0, rfl, rfl, rfl, (fun h => by cases h), ⟨rfl, hh0⟩, fun fs hl => c3.trans (X0.ireturnOut hexec hret rfl (Or.inr (Or.inr (Or.inl rfl))) (hb hbytes d8) hl)⟩
end CodL
/-- the String at a is Latin-1 over a new byte[] (the heap's one new cell): the low bytes of the len chars of A from o on; every cell but a is kept -/
def Got (a : Addr) (D : Cell) (fV fC : Field) (A : Cell) (o len : Nat) (r : Option Value) (s u : State) : Prop := r = none ∧ ∃ D' V : Cell, Blank "java/lang/String" a D' u ∧ Same D D' [fV.slot, fC.slot] ∧ D'.slots[fV.slot]? = some (.ref s.heap.size) ∧ D'.slots[fC.slot]? = some (.int 0) ∧ Arr .byte s.heap.size V u ∧ V.vm = .none ∧ u.vm.findClass "[B" = some V.cls ∧ V.slots.size = len ∧ (∀ j, j < len → V.slots[j]? = some (.int (lo8 (cv A (o + j))))) ∧ (∀ (y : Addr) (c : Cell), y ≠ a → s.heap[y]? = some c → u.heap[y]? = some c) ∧ u.heap.size = s.heap.size + 1
theorem Got.mv {a : Addr} {D A : Cell} {fV fC : Field} {o len : Nat} : ∀ r (U U' V V' : State), U'.heap = U.heap → V.vm.Alike V'.vm → V'.heap = V.heap → Got a D fV fC A o len r U V → Got a D fV fC A o len r U' V' :=
  fun r U U' V V' h1 hal h2 ⟨e0, D', X, a1, a2, a3, a4, a5, a6, a7, a8, a9, a10, a11⟩ => ⟨e0, D', X, a1.mv hal h2, a2, by rw [h1]; exact a3, a4, by rw [h1]; exact a5.mv hal h2, a6, by rw [hal.findClass]; exact a7, a8, a9, by rw [h1, h2]; exact a10, by rw [h1, h2]; exact a11⟩
namespace New4
def yN : MethodName := ⟨"java/lang/String", "<init>", "([CIILjava/lang/Void;)V"⟩
abbrev yB : ByteArray := jdk_42_method_149_code
theorem d0 : decode yB 0 = .ok (.aload_n 0, 1) := by decide +kernel
theorem d1 : decode yB 1 = .ok (.invokespecial 1, 3) := by decide +kernel
theorem d4 : decode yB 4 = .ok (.iload_n 3, 1) := by decide +kernel
theorem d5 : decode yB 5 = .ok (.ifCond (.ne) 22, 3) := by decide +kernel
theorem d27 : decode yB 27 = .ok (.getstatic 38, 3) := by decide +kernel
theorem d30 : decode yB 30 = .ok (.ifCond (.eq) 28, 3) := by decide +kernel
theorem d33 : decode yB 33 = .ok (.aload_n 1, 1) := by decide +kernel
theorem d34 : decode yB 34 = .ok (.iload_n 2, 1) := by decide +kernel
theorem d35 : decode yB 35 = .ok (.iload_n 3, 1) := by decide +kernel
theorem d36 : decode yB 36 = .ok (.invokestatic 177, 3) := by decide +kernel
theorem d39 : decode yB 39 = .ok (.astore 5, 2) := by decide +kernel
theorem d41 : decode yB 41 = .ok (.aload_n 0, 1) := by decide +kernel
theorem d42 : decode yB 42 = .ok (.aload 5, 2) := by decide +kernel
theorem d44 : decode yB 44 = .ok (.iload_n 3, 1) := by decide +kernel
theorem d45 : decode yB 45 = .ok (.invokestatic 47, 3) := by decide +kernel
theorem d48 : decode yB 48 = .ok (.putfield 15, 3) := by decide +kernel
theorem d51 : decode yB 51 = .ok (.aload_n 0, 1) := by decide +kernel
theorem d52 : decode yB 52 = .ok (.aload 5, 2) := by decide +kernel
theorem d54 : decode yB 54 = .ok (.putfield 9, 3) := by decide +kernel
theorem d57 : decode yB 57 = .ok (.return_, 1) := by decide +kernel
def site : List Cond := [.fieldLink "java/lang/String" 38 "java/lang/String" "COMPACT_STRINGS" "Z", Cmp3.tab, CodL.tab, .laysFinal "java/lang/String" "java/lang/String" "value" "[B", .fieldLink "java/lang/String" 9 "java/lang/String" "value" "[B", .laysFinal "java/lang/String" "java/lang/String" "coder" "B", .fieldLink "java/lang/String" 15 "java/lang/String" "coder" "B"] ++ objW "java/lang/String" 1 ++ staticW "java/lang/String" 177 Cmp3.yN ++ staticW "java/lang/String" 47 CodL.yN
def tab : Cond := tabOf yN yB 6 none site
def P (a : Addr) (D : Cell) (fV fC : Field) (b : Addr) (A : Cell) (z : Int32) (o len : Nat) (args : Array Value) (s : State) : Prop := args = #[.ref a, .ref b, .int (Int32.ofNat o), .int (Int32.ofNat len), .null] ∧ Blank "java/lang/String" a D s ∧ Found "java/lang/String" "value" "[B" fV s ∧ Found "java/lang/String" "coder" "B" fC s ∧ Ch b A s ∧ StaticIs s "java/lang/String" "COMPACT_STRINGS" "Z" (.int z) ∧ ¬ z = 0 ∧ 0 < len ∧ o + len ≤ A.slots.size ∧ len ≤ 536870912 ∧ ∀ i, i < len → ¬ 255 < cv A (o + i)
def E (a : Addr) (D : Cell) (fV fC : Field) (A : Cell) (o len : Nat) (r : Option Value) (s u : State) : Prop := Got a D fV fC A o len r s u
/-- len > 0, no char of the range above 255: a Latin-1 String of their low bytes -/
theorem law (l : Launch) (a : Addr) (D : Cell) (fV fC : Field) (b : Addr) (A : Cell) (z : Int32) (o len : Nat) : Law l yN 5 4 2 35 yB 6 none site (P a D fV fC b A z o len) (E a D fV fC A o len) [⟨a, fC.slot⟩, ⟨a, fV.slot⟩] 1 len := by
  refine Law.of_walk (plainFor_of_name (by decide +kernel)) (by decide +kernel) (by decide +kernel) (by decide) (fun _ _ h => by rw [h.1]; rfl) (fun _ U U' hal hh h => ⟨h.1, h.2.1.mv hal hh, h.2.2.1.al hal, h.2.2.2.1.al hal, h.2.2.2.2.1.mv hal hh, h.2.2.2.2.2.1.there hal hh, h.2.2.2.2.2.2⟩) (fun r U U' V V' h1 hal h2 h => Got.mv r U U' V V' h1 hal h2 h) ?_
  intro p e s m args below meth c s₁ X0 hexec hbytes hml hret hlk hnm hown hh0 W hP
  obtain ⟨rfl, hB, f1, f2, hA, s1, hz, l0, l1, l2, hp⟩ := hP
  have a31 := hA.1.2.2.2
  have c1 : Steps p.tables e below (s₁.setTop (entryFrame m #[.ref a, .ref b, .int (Int32.ofNat o), .int (Int32.ofNat len), .null] 6)) (s₁.setTop (mkF m 0 #[.val (.ref a), .val (.ref b), .val (.int (Int32.ofNat o)), .val (.int (Int32.ofNat len)), .val .null, .unset] [])) := entry rfl
  have c2 : Steps p.tables e below (s₁.setTop (entryFrame m #[.ref a, .ref b, .int (Int32.ofNat o), .int (Int32.ofNat len), .null] 6)) (s₁.setTop (mkF m 1 #[.val (.ref a), .val (.ref b), .val (.int (Int32.ofNat o)), .val (.int (Int32.ofNat len)), .val .null, .unset] [.ref a])) := c1.trans (by
    refine XS.aloadN X0.here hexec rfl (hb hbytes d0) rfl rfl ?_
    exact Steps.refl _)
  obtain ⟨T3, X3, q3, st3⟩ := X0.oinit hexec hown (wks W (objW "java/lang/String" 1)) (g := (mkF m 1 #[.val (.ref a), .val (.ref b), .val (.int (Int32.ofNat o)), .val (.int (Int32.ofNat len)), .val .null, .unset] [.ref a])) rfl (by rw [hml]; rfl) (rest := []) rfl (hb hbytes d1) (W := 0) (by show 2 * 0 + 0 ≤ _; decide) (Nat.le_of_ble_eq_true rfl) (Nat.le_of_ble_eq_true rfl)
  have hh3 := q3.trans hh0
  have c4 : Steps p.tables e below (s₁.setTop (entryFrame m #[.ref a, .ref b, .int (Int32.ofNat o), .int (Int32.ofNat len), .null] 6)) (T3.setTop (mkF m 27 #[.val (.ref a), .val (.ref b), .val (.int (Int32.ofNat o)), .val (.int (Int32.ofNat len)), .val .null, .unset] [])) := (c2.trans (st3 _ (Steps.refl _))).trans (by
    refine XS.iloadN X3.here hexec rfl (hb hbytes d4) rfl ?_
    refine XS.ifYes X3.here hexec rfl (pc0 := 5) rfl (hb hbytes d5) rfl (i0_ne_t (nz32 (by omega) l0)) (by decide) rfl ?_
    exact Steps.refl _)
  obtain ⟨T5, X5, q5, st5⟩ := X3.sget hexec hown (wk W (.fieldLink "java/lang/String" 38 "java/lang/String" "COMPACT_STRINGS" "Z")) s1 (fun _ _ h => by rw [hh3]; exact h) (g := (mkF m 27 #[.val (.ref a), .val (.ref b), .val (.int (Int32.ofNat o)), .val (.int (Int32.ofNat len)), .val .null, .unset] [])) rfl (hb hbytes d27)
  have hh5 := q5.trans hh3
  have c6 : Steps p.tables e below (s₁.setTop (entryFrame m #[.ref a, .ref b, .int (Int32.ofNat o), .int (Int32.ofNat len), .null] 6)) (T5.setTop (mkF m 30 #[.val (.ref a), .val (.ref b), .val (.int (Int32.ofNat o)), .val (.int (Int32.ofNat len)), .val .null, .unset] [.int z])) := c4.trans (st5 _ (Steps.refl _))
  have c7 : Steps p.tables e below (s₁.setTop (entryFrame m #[.ref a, .ref b, .int (Int32.ofNat o), .int (Int32.ofNat len), .null] 6)) (T5.setTop (mkF m 36 #[.val (.ref a), .val (.ref b), .val (.int (Int32.ofNat o)), .val (.int (Int32.ofNat len)), .val .null, .unset] [.int (Int32.ofNat len), .int (Int32.ofNat o), .ref b])) := c6.trans (by
    refine XS.ifNo X5.here hexec rfl (hb hbytes d30) rfl (i0_eq_f hz) ?_
    refine XS.aloadN X5.here hexec rfl (hb hbytes d33) rfl rfl ?_
    refine XS.iloadN X5.here hexec rfl (hb hbytes d34) rfl ?_
    refine XS.iloadN X5.here hexec rfl (hb hbytes d35) rfl ?_
    exact Steps.refl _)
  obtain ⟨v8, T8, X8, E8, g8⟩ := X5.callS hexec (Cmp3.law l b A o len) hown (wks W (staticW "java/lang/String" 177 Cmp3.yN)) (wk W Cmp3.tab) (W := 0) (Nat.le_of_ble_eq_true rfl) (Nat.le_of_ble_eq_true rfl) (Nat.le_refl _) (by show 0 + len ≤ len; omega) (g := (mkF m 36 #[.val (.ref a), .val (.ref b), .val (.int (Int32.ofNat o)), .val (.int (Int32.ofNat len)), .val .null, .unset] [.int (Int32.ofNat len), .int (Int32.ofNat o), .ref b])) rfl (by rw [hml]; rfl) c7 (argsL := [.ref b, .int (Int32.ofNat o), .int (Int32.ofNat len)]) (rest := []) rfl rfl (by show 2 * 0 + 0 ≤ _; decide) (hb hbytes d36) (⟨rfl, hA.mv X5.warmed.alike hh5, l1, l2, hp⟩)
  obtain ⟨e8, z8⟩ := E8
  obtain ⟨rfl, N, n1, n2, n3, n4, n5, n6⟩ := NewArr.mv _ T5 s _ _ hh5.symm (Vm.Alike.refl _) rfl e8
  rw [hh5] at z8
  have hB1 := hB.keep X8.warmed.alike (n6 _ _ hB.1)
  have hne : s.heap.size ≠ a := (Nat.ne_of_lt (Array.getElem?_eq_some_iff.mp hB.1).1).symm
  have c9 : Steps p.tables e below (s₁.setTop (entryFrame m #[.ref a, .ref b, .int (Int32.ofNat o), .int (Int32.ofNat len), .null] 6)) (T8.setTop (mkF m 39 #[.val (.ref a), .val (.ref b), .val (.int (Int32.ofNat o)), .val (.int (Int32.ofNat len)), .val .null, .unset] [.ref s.heap.size])) := g8
  have c10 : Steps p.tables e below (s₁.setTop (entryFrame m #[.ref a, .ref b, .int (Int32.ofNat o), .int (Int32.ofNat len), .null] 6)) (T8.setTop (mkF m 45 #[.val (.ref a), .val (.ref b), .val (.int (Int32.ofNat o)), .val (.int (Int32.ofNat len)), .val .null, .val (.ref s.heap.size)] [.int (Int32.ofNat N.slots.size), .ref s.heap.size, .ref a])) := by
    have hc : Steps p.tables e below (s₁.setTop (entryFrame m #[.ref a, .ref b, .int (Int32.ofNat o), .int (Int32.ofNat len), .null] 6)) (T8.setTop (mkF m 45 #[.val (.ref a), .val (.ref b), .val (.int (Int32.ofNat o)), .val (.int (Int32.ofNat len)), .val .null, .val (.ref s.heap.size)] [.int (Int32.ofNat len), .ref s.heap.size, .ref a])) := c9.trans (by
      refine XS.astore X8.here hexec rfl (hb hbytes d39) rfl rfl rfl ?_
      refine XS.aloadN X8.here hexec rfl (hb hbytes d41) rfl rfl ?_
      refine XS.aload X8.here hexec rfl (hb hbytes d42) rfl rfl ?_
      refine XS.iloadN X8.here hexec rfl (hb hbytes d44) rfl ?_
      exact Steps.refl _)
    rw [n4]; exact hc
  obtain ⟨v11, T11, X11, E11, g11⟩ := X8.callS hexec (CodL.law l s.heap.size N) hown (wks W (staticW "java/lang/String" 47 CodL.yN)) (wk W CodL.tab) (W := 1) (Nat.le_of_ble_eq_true rfl) (Nat.le_of_ble_eq_true rfl) (Nat.le_refl _) (by show 0 + len + 0 ≤ len; omega) (g := (mkF m 45 #[.val (.ref a), .val (.ref b), .val (.int (Int32.ofNat o)), .val (.int (Int32.ofNat len)), .val .null, .val (.ref s.heap.size)] [.int (Int32.ofNat N.slots.size), .ref s.heap.size, .ref a])) rfl (by rw [hml]; rfl) c10 (argsL := [.ref s.heap.size, .int (Int32.ofNat N.slots.size)]) (rest := [.ref a]) rfl rfl (by show 2 * 0 + (1 + 0) ≤ _; decide) (hb hbytes d45) (⟨rfl, n1⟩)
  obtain ⟨rfl, q11⟩ := E11
  have hB11 := hB1.mv (X8.warmed.alike.symm.trans X11.warmed.alike) q11
  have c12 : Steps p.tables e below (s₁.setTop (entryFrame m #[.ref a, .ref b, .int (Int32.ofNat o), .int (Int32.ofNat len), .null] 6)) (T11.setTop (mkF m 48 #[.val (.ref a), .val (.ref b), .val (.int (Int32.ofNat o)), .val (.int (Int32.ofNat len)), .val .null, .val (.ref s.heap.size)] [.int 0, .ref a])) := g11
  obtain ⟨T13, X13, p13, bl13, sl13, st13⟩ := X11.finit hexec hown (wk W (.fieldLink "java/lang/String" 15 "java/lang/String" "coder" "B")) (Or.inr ⟨_, (wk W (.laysFinal "java/lang/String" "java/lang/String" "coder" "B"))⟩) (Or.inl ⟨rfl, hnm⟩) f2 (Or.inl rfl) hB11 (t := .byte) (by decide +kernel) rfl (g := (mkF m 48 #[.val (.ref a), .val (.ref b), .val (.int (Int32.ofNat o)), .val (.int (Int32.ofNat len)), .val .null, .val (.ref s.heap.size)] [.int 0, .ref a])) rfl (rest := []) rfl (hb hbytes d48)
  have c14 : Steps p.tables e below (s₁.setTop (entryFrame m #[.ref a, .ref b, .int (Int32.ofNat o), .int (Int32.ofNat len), .null] 6)) (T13.setTop (mkF m 54 #[.val (.ref a), .val (.ref b), .val (.int (Int32.ofNat o)), .val (.int (Int32.ofNat len)), .val .null, .val (.ref s.heap.size)] [.ref s.heap.size, .ref a])) := (c12.trans (st13 _ (Steps.refl _))).trans (by
    refine XS.aloadN X13.here hexec rfl (hb hbytes d51) rfl rfl ?_
    refine XS.aload X13.here hexec rfl (hb hbytes d52) rfl rfl ?_
    exact Steps.refl _)
  obtain ⟨T15, X15, p15, bl15, sl15, st15⟩ := X13.finit hexec hown (wk W (.fieldLink "java/lang/String" 9 "java/lang/String" "value" "[B")) (Or.inr ⟨_, (wk W (.laysFinal "java/lang/String" "java/lang/String" "value" "[B"))⟩) (Or.inl ⟨rfl, hnm⟩) f1 (Or.inl rfl) bl13 (t := (.array .byte)) (by decide +kernel) rfl (g := (mkF m 54 #[.val (.ref a), .val (.ref b), .val (.int (Int32.ofNat o)), .val (.int (Int32.ofNat len)), .val .null, .val (.ref s.heap.size)] [.ref s.heap.size, .ref a])) rfl (rest := []) rfl (hb hbytes d54)
  have c16 : Steps p.tables e below (s₁.setTop (entryFrame m #[.ref a, .ref b, .int (Int32.ofNat o), .int (Int32.ofNat len), .null] 6)) (T15.setTop (mkF m 57 #[.val (.ref a), .val (.ref b), .val (.int (Int32.ofNat o)), .val (.int (Int32.ofNat len)), .val .null, .val (.ref s.heap.size)] [])) := c14.trans (st15 _ (Steps.refl _))
  have ap := apart (Or.inr ⟨_, (wk W (.laysFinal "java/lang/String" "java/lang/String" "value" "[B"))⟩) (Or.inr ⟨_, (wk W (.laysFinal "java/lang/String" "java/lang/String" "coder" "B"))⟩) f1 f2 (t₁ := .array .byte) (t₂ := .byte) (by decide +kernel) (by decide +kernel) (by decide)
  have al := X8.warmed.alike.symm.trans X15.warmed.alike
  have n7 : T11.heap[s.heap.size]? = some N := by rw [q11]; exact n1.1
  exact ⟨T15, none, _, _, _, X15, by simp, rfl, by omega, (fun _ => rfl), ⟨rfl, _, N, bl15, ((Same.refl D _).set _ (by simp)).set _ (by simp), sl15, (Cell.slots_setSlot_ne _ ap).trans sl13, n1.keep al (p15.other hne (p13.other hne n7)), n2, by rw [al.findClass]; exact n3, n4, n5, fun y c h1 h2 => p15.other h1 (p13.other h1 (by rw [q11]; exact n6 y c h2)), by rw [p15.2.2, p13.2.2, q11]; exact z8⟩, fun fs hl => c16.trans (X15.returnOut hexec hret (hb hbytes d57) hl)⟩
end New4
namespace New1
def yN : MethodName := ⟨"java/lang/String", "<init>", "([C)V"⟩
abbrev yB : ByteArray := jdk_42_method_3_code
theorem d0 : decode yB 0 = .ok (.aload_n 0, 1) := by decide +kernel
theorem d1 : decode yB 1 = .ok (.aload_n 1, 1) := by decide +kernel
theorem d2 : decode yB 2 = .ok (.iconst 0, 1) := by decide +kernel
theorem d3 : decode yB 3 = .ok (.aload_n 1, 1) := by decide +kernel
theorem d4 : decode yB 4 = .ok (.arraylength, 1) := by decide +kernel
theorem d5 : decode yB 5 = .ok (.aconst_null, 1) := by decide +kernel
theorem d6 : decode yB 6 = .ok (.invokespecial 27, 3) := by decide +kernel
theorem d9 : decode yB 9 = .ok (.return_, 1) := by decide +kernel
def site : List Cond := [New4.tab] ++ initW "java/lang/String" 27 New4.yN
def tab : Cond := tabOf yN yB 2 none site
def P (a : Addr) (D : Cell) (fV fC : Field) (b : Addr) (A : Cell) (z : Int32) (args : Array Value) (s : State) : Prop := args = #[.ref a, .ref b] ∧ Blank "java/lang/String" a D s ∧ Found "java/lang/String" "value" "[B" fV s ∧ Found "java/lang/String" "coder" "B" fC s ∧ Ch b A s ∧ StaticIs s "java/lang/String" "COMPACT_STRINGS" "Z" (.int z) ∧ ¬ z = 0 ∧ 0 < A.slots.size ∧ A.slots.size ≤ 536870912 ∧ ∀ i, i < A.slots.size → ¬ 255 < cv A i
def E (a : Addr) (D : Cell) (fV fC : Field) (A : Cell) (r : Option Value) (s u : State) : Prop := Got a D fV fC A 0 A.slots.size r s u
/-- new String(chars), not empty, no char above 255: a Latin-1 String of their low bytes -/
theorem law (l : Launch) (a : Addr) (D : Cell) (fV fC : Field) (b : Addr) (A : Cell) (z : Int32) : Law l yN 2 1 3 52 yB 2 none site (P a D fV fC b A z) (E a D fV fC A) [⟨a, fC.slot⟩, ⟨a, fV.slot⟩] 1 A.slots.size := by
  refine Law.of_walk (plainFor_of_name (by decide +kernel)) (by decide +kernel) (by decide +kernel) (by decide) (fun _ _ h => by rw [h.1]; rfl) (fun _ U U' hal hh h => ⟨h.1, h.2.1.mv hal hh, h.2.2.1.al hal, h.2.2.2.1.al hal, h.2.2.2.2.1.mv hal hh, h.2.2.2.2.2.1.there hal hh, h.2.2.2.2.2.2⟩) (fun r U U' V V' h1 hal h2 h => Got.mv r U U' V V' h1 hal h2 h) ?_
  intro p e s m args below meth c s₁ X0 hexec hbytes hml hret hlk hnm hown hh0 W hP
  obtain ⟨rfl, hB, f1, f2, hA, s1, hz, l0, l2, hp⟩ := hP
  have c1 : Steps p.tables e below (s₁.setTop (entryFrame m #[.ref a, .ref b] 2)) (s₁.setTop (mkF m 0 #[.val (.ref a), .val (.ref b)] [])) := entry rfl
  have c2 : Steps p.tables e below (s₁.setTop (entryFrame m #[.ref a, .ref b] 2)) (s₁.setTop (mkF m 6 #[.val (.ref a), .val (.ref b)] [.null, .int (Int32.ofNat A.slots.size), .int 0, .ref b, .ref a])) := c1.trans (by
    refine XS.aloadN X0.here hexec rfl (hb hbytes d0) rfl rfl ?_
    refine XS.aloadN X0.here hexec rfl (hb hbytes d1) rfl rfl ?_
    refine iconstV X0.here hexec rfl 0 (hb hbytes d2) (by decide) ?_
    refine XS.aloadN X0.here hexec rfl (hb hbytes d3) rfl rfl ?_
    refine X0.alen hexec (hA.1.mv X0.warmed.alike hh0) rfl rfl (hb hbytes d4) ?_
    refine XS.aconstNull X0.here hexec rfl (hb hbytes d5) ?_
    exact Steps.refl _)
  obtain ⟨v3, T3, X3, E3, g3⟩ := X0.callN hexec (New4.law l a D fV fC b A z 0 A.slots.size) rfl hown (wks W (initW "java/lang/String" 27 New4.yN)) (W New4.tab (by simp only [site, List.mem_cons, List.mem_append, true_or, or_true])) (W := 0) (Nat.le_of_ble_eq_true rfl) (Nat.le_of_ble_eq_true rfl) (Nat.le_refl _) (by show 0 + A.slots.size ≤ A.slots.size; omega) (g := (mkF m 6 #[.val (.ref a), .val (.ref b)] [.null, .int (Int32.ofNat A.slots.size), .int (Int32.ofNat 0), .ref b, .ref a])) rfl (by rw [hml]; rfl) c2 (argsL := [.ref b, .int (Int32.ofNat 0), .int (Int32.ofNat A.slots.size), .null]) (rest := []) rfl rfl (by show 2 * 0 + 0 ≤ _; decide) (hb hbytes d6) (⟨rfl, hB.mv X0.warmed.alike hh0, f1.al X0.warmed.alike, f2.al X0.warmed.alike, hA.mv X0.warmed.alike hh0, s1.there X0.warmed.alike hh0, hz, l0, by omega, l2, fun i hi => by rw [Nat.zero_add]; exact hp i hi⟩)
  have e0 := Got.mv _ s₁ s _ _ hh0.symm (Vm.Alike.refl _) rfl E3
  obtain rfl := e0.1
  have c4 : Steps p.tables e below (s₁.setTop (entryFrame m #[.ref a, .ref b] 2)) (T3.setTop (mkF m 9 #[.val (.ref a), .val (.ref b)] [])) := g3
  exact ⟨T3, none, _, _, _, X3, by simp, rfl, by omega, (fun _ => rfl), e0, fun fs hl => c4.trans (X3.returnOut hexec hret (hb hbytes d9) hl)⟩
theorem pays {l : Launch} {R : Room} {p : Program} {e : Env} {below : List Frame} {s : State} {sargs : Array Value} {len W : Nat} (a : Addr) (D : Cell) (fV fC : Field) (b : Addr) (A : Cell) (z : Int32) (htab : tab.before sargs s = true) (hfr : 4 ≤ R.frames) (hlo : W + 65 ≤ R.locals) :
    Back l R p e below s sargs yN len W (fun A₁ a₁ => A₁.cells + 1 ≤ R.cells ∧ A₁.slots + A.slots.size ≤ R.slots ∧ P a D fV fC b A z a₁ A₁.U) (fun A₁ _ v₁ B₁ => E a D fV fC A v₁ A₁.U B₁.U ∧ B₁.locs = A₁.locs ++ [⟨a, fC.slot⟩, ⟨a, fV.slot⟩] ∧ B₁.cells = A₁.cells + 1 ∧ B₁.slots = A₁.slots + A.slots.size) :=
  (law l a D fV fC b A z).pays htab hfr (by omega)
end New1
/-- the byte, read back as charAt reads it, is the char -/
theorem lo8_mask {x : Int32} (h0 : ¬ x < 0) (h1 : ¬ 255 < x) : lo8 x &&& 255 = x := by
  have t : ∀ k : Fin 256, lo8 (Int32.ofNat k.val) &&& 255 = Int32.ofNat k.val := by decide +kernel
  rw [Int32.lt_iff_toInt_lt] at h0 h1
  have e0 : (0 : Int32).toInt = 0 := rfl
  have e1 : (255 : Int32).toInt = 255 := rfl
  obtain ⟨k, hk⟩ : ∃ k : Nat, x.toInt = k := ⟨x.toInt.toNat, by omega⟩
  have hx : x = Int32.ofNat k := Int32.toInt_inj.mp (by rw [hk, Int32.toInt_ofNat_small (by omega)])
  rw [hx]
  exact t ⟨k, by omega⟩
end StrChars
namespace StrChars.Road
open Jvm Sem ClassFile Op Lib Jvm.Stand Jvm.Free Jvm.Free.XT
open Jvm.Lib.Cold (StaticIs)
abbrev ST : String := "java/lang/String"
/-- every table word that New1's law asks, flat -/
abbrev words : List Jvm.Cond := [.code New1.yN New1.yB 2 none, .initialized ST, .methodLink ST 27 New4.yN, .instanceMethod New4.yN,
  .code New4.yN New4.yB 6 none, .fieldLink ST 38 ST "COMPACT_STRINGS" "Z", .laysFinal ST ST "value" "[B", .fieldLink ST 9 ST "value" "[B", .laysFinal ST ST "coder" "B", .fieldLink ST 15 ST "coder" "B",
  .methodLink ST 1 Lib.objectInit, .instanceMethod Lib.objectInit, .code Lib.objectInit ⟨#[0xb1]⟩ 1 none, .methodLink ST 177 Cmp3.yN, .static Cmp3.yN, .methodLink ST 47 CodL.yN, .static CodL.yN,
  .code Cmp3.yN Cmp3.yB 6 (some (.array .byte)), .initialized U16, .arrayClass .byte, .methodLink U16 115 Cmp5.yN, .static Cmp5.yN, .code Cmp5.yN Cmp5.yB 7 (some .int), .code CodL.yN CodL.yB 2 (some .byte)]
theorem tab_of {a : Array Value} {s : State} (h : ∀ w ∈ words, w.before a s = true) : New1.tab.before a s = true := by
  have h5 : Cmp5.tab.before a s = true := unparts (wk h (.code Cmp5.yN Cmp5.yB 7 (some .int))) (wks h (.initialized Cmp5.yN.cls :: Cmp5.site))
  have hc : CodL.tab.before a s = true := unparts (wk h (.code CodL.yN CodL.yB 2 (some .byte))) (wks h (.initialized CodL.yN.cls :: CodL.site))
  have q5 : ∀ w ∈ Cmp5.tab :: words, w.before a s = true := fun w hw => (List.mem_cons.mp hw).elim (fun e => e ▸ h5) (h w)
  have h3 : Cmp3.tab.before a s = true := unparts (wk q5 (.code Cmp3.yN Cmp3.yB 6 (some (.array .byte)))) (wks q5 (.initialized Cmp3.yN.cls :: Cmp3.site))
  have q3 : ∀ w ∈ Cmp3.tab :: CodL.tab :: words, w.before a s = true := fun w hw => (List.mem_cons.mp hw).elim (fun e => e ▸ h3) fun hw => (List.mem_cons.mp hw).elim (fun e => e ▸ hc) (h w)
  have h4 : New4.tab.before a s = true := unparts (wk q3 (.code New4.yN New4.yB 6 none)) (wks q3 (.initialized New4.yN.cls :: New4.site))
  have q4 : ∀ w ∈ New4.tab :: words, w.before a s = true := fun w hw => (List.mem_cons.mp hw).elim (fun e => e ▸ h4) (h w)
  exact unparts (wk q4 (.code New1.yN New1.yB 2 none)) (wks q4 (.initialized New1.yN.cls :: New1.site))
/-- the words ride from the start Z to the walk's own state -/
theorem moved {Z s : State} {a0 args : Array Value} (hZ : Z.Warmed39 s.vm) (hw : ∀ d ∈ words, d.before a0 Z = true) : ∀ d ∈ words, d.before args s = true := fun d hd => by
  have q := hw d hd
  have t : ∀ d ∈ words, d = .arrayClass .byte ∨ (d.onTables && d.keepsFace) = true := by decide +kernel
  rcases t d hd with rfl | t
  · exact RoadKit.mvA hZ q
  · exact RoadKit.mv hZ q t
/-- WHAT COMES BACK, over the tables of the start Z: h the heap at the call, h' behind it -/
def Q (Z : State) (x : Addr) (A : Cell) (h : Heap) (v : Option Value) (h' : Heap) (L : List Loc) : Prop := v = none ∧ (∀ y ∈ L, y.base = x) ∧ RoadKit.Keep h h' [x] ∧ h'.size = h.size + 1 ∧ RoadKit.Exa Z h' x ST ∧ RoadKit.Fld Z h' x ST "value" "[B" (.ref h.size) ∧ RoadKit.Fld Z h' x ST "coder" "B" (.int 0) ∧
  (∃ V : Cell, RoadKit.Arr Z h' h.size V .byte ∧ V.vm = .none ∧ Z.vm.findClass "[B" = some V.cls ∧ V.slots.size = A.slots.size ∧ ∀ j, j < A.slots.size → V.slots[j]? = some (.int (lo8 (cv A j)))) ∧
  ∀ (O n d : String) (w : Value), RoadKit.Fld Z h x O n d w → RoadKit.slotOf Z O n d ≠ RoadKit.slotOf Z ST "value" "[B" → RoadKit.slotOf Z O n d ≠ RoadKit.slotOf Z ST "coder" "B" → RoadKit.Fld Z h' x O n d w
/-- **new String(chars) AT A CALL, IN THE ROAD'S FORM**: for specialBack behind newO: x the fresh String, b the char[] with the cell A -/
theorem back {p : Program} {l : Launch} {e : Env} {R : Room} {s : State} {args : Array Value} {below : List Frame} {len W : Nat} {Z : State} {a0 : Array Value} {h : Heap} (hZ : Z.Warmed39 s.vm) (hw : ∀ d ∈ words, d.before a0 Z = true) {kI : Nat} (wi : (Jvm.Cond.instantiable ST kI).before a0 Z = true)
    {x b : Addr} {A : Cell} {z : Int32} {v0 c0 : Value} (E : RoadKit.Exa Z h x ST) (V : RoadKit.Fld Z h x ST "value" "[B" v0) (C : RoadKit.Fld Z h x ST "coder" "B" c0) (K : RoadKit.Arr Z h b A .char) (hty : Typed .char A) (S : RoadKit.Sta Z h ST "COMPACT_STRINGS" "Z" (.int z)) (hz : ¬ z = 0)
    (l0 : 0 < A.slots.size) (l2 : A.slots.size ≤ 536870912) (hp : ∀ i, i < A.slots.size → ¬ 255 < cv A i) (hfr : 4 ≤ R.frames) (hlo : W + 65 ≤ R.locals) :
    Back l R p e below s args New1.yN len W (fun P a => a = #[.ref x, .ref b] ∧ P.U.heap = h ∧ P.cells + 1 ≤ R.cells ∧ P.slots + A.slots.size ≤ R.slots)
      (fun P _ v B => ∃ L, Q Z x A h v B.U.heap L ∧ B.locs = P.locs ++ L ∧ B.cells = P.cells + 1 ∧ B.slots = P.slots + A.slots.size) := by
  intro m meth c P g ig mk a X hg hsize hdg hW hn hp'
  obtain ⟨rfl, rfl, r1, r2⟩ := hp'
  have al : Z.vm.Alike P.U.vm := hZ.alike.trans X.warmed.alike
  obtain ⟨D, cfV, kV, iV, fV, hD, gV, stV, knV, obV, asV, slV⟩ := id V
  obtain ⟨D', cfC, kC, iC, fC, hD', gC, stC, -, -, asC, slC⟩ := id C
  cases hD.symm.trans hD'
  obtain ⟨D2, kD, e1, e2, e3, e4, e5⟩ := id E
  cases hD.symm.trans e1
  obtain ⟨c2, k2, i1, i2, i3, -⟩ := Cond.instantiable_spec wi
  cases e2.symm.trans i1
  cases e3.symm.trans i2
  obtain ⟨kU, u1, u2⟩ := al.2.2 _ _ e3
  have hB : Blank ST x D P.U := ⟨hD, ⟨knV, fun q hq => by rw [hq] at obV; cases obV⟩, by rw [al.findClass]; exact e2, kU, u1, by rw [u2]; exact i3, by rw [u2]; exact e5 i3⟩
  have F1 : Found ST "value" "[B" fV P.U := ⟨SBG.found_only al ⟨cfV, kV, iV, gV⟩, stV⟩
  have F2 : Found ST "coder" "B" fC P.U := ⟨SBG.found_only al ⟨cfC, kC, iC, gC⟩, stC⟩
  have hA : Ch b A P.U := ⟨⟨K.1, State.isArrayOf_alike al K.2.1, K.2.2, by omega⟩, hty⟩
  have hS : StaticIs P.U ST "COMPACT_STRINGS" "Z" (.int z) := by
    obtain ⟨cfS, iS, kS, fS, st, cS, t1, t2, t3, t4, t5, t6, t7⟩ := S
    exact StaticIs.there (s := { Z with heap := P.U.heap }) ⟨cfS, iS, kS, fS, st, cS, t1, t2, t3, t4, t5, (fun q => by rw [q] at t6; cases t6), t7⟩ al rfl
  obtain ⟨v, B, X', ⟨⟨hv, E', V', q1, q2, q3, q4, q5, q6, q7, q8, q9, q10, q11⟩, hl, hc, hs⟩, st⟩ := New1.pays x D fV fC b A z (tab_of (moved hZ hw)) hfr hlo m meth c P g ig mk _ X hg hsize hdg hW hn ⟨r1, r2, rfl, hB, F1, F2, hA, hS, hz, l0, l2, hp⟩
  have al' : Z.vm.Alike B.U.vm := hZ.alike.trans X'.warmed.alike
  have hsz : E'.slots.size = D.slots.size := by
    obtain ⟨-, -, -, kB, w1, w2, w3⟩ := q1
    obtain ⟨kB', y1, y2⟩ := al'.2.2 _ _ e3
    rw [q2.2.1] at w1
    cases w1.symm.trans y1
    rw [w3, e5 i3, y2]
  refine ⟨v, B, X', ⟨_, ⟨hv, ?_, ⟨by omega, fun y cy hy hn' => q10 y cy (by simpa using hn') hy, fun y cy hy => ?_⟩, q11, ⟨E', _, q1.1, by rw [q2.2.1]; exact e2, by rw [q2.2.1]; exact e3, by rw [q2.1]; exact obV, fun _ => by rw [hsz]; exact e5 i3⟩,
    ⟨E', cfV, kV, iV, fV, q1.1, gV, stV, by rw [q2.1]; exact knV, by rw [q2.1]; exact obV, by rw [q2.2.1]; exact asV, q3⟩, ⟨E', cfC, kC, iC, fC, q1.1, gC, stC, by rw [q2.1]; exact knV, by rw [q2.1]; exact obV, by rw [q2.2.1]; exact asC, q4⟩,
    ⟨V', ⟨q5.1, State.isArrayOf_alike al'.symm q5.2.1, q5.2.2.1⟩, q6, by rw [← al'.findClass]; exact q7, q8, fun j hj => by have := q9 j hj; rwa [Nat.zero_add] at this⟩, fun O n d w F n1 n2 => ?_⟩, hl, hc, hs⟩, st⟩
  · intro y hy
    simp only [List.mem_cons, List.not_mem_nil, or_false] at hy
    rcases hy with rfl | rfl <;> rfl
  · by_cases q : y = x
    · subst q
      cases hD.symm.trans hy
      exact ⟨E', q1.1, q2.2.1, q2.1, hsz⟩
    · exact ⟨cy, q10 y cy q hy, rfl, rfl, rfl⟩
  · obtain ⟨D3, cf, k, i, f, g1, g2, g3, g4, g5, g6, g7⟩ := F
    cases hD.symm.trans g1
    simp only [RoadKit.slotOf, g2, gV, gC, Option.map_some, Option.getD_some] at n1 n2
    exact ⟨E', cf, k, i, f, q1.1, g2, g3, by rw [q2.1]; exact g4, by rw [q2.1]; exact g5, by rw [q2.2.1]; exact g6, by rw [q2.2.2 f.slot (by simp [n1, n2])]; exact g7⟩
end StrChars.Road
namespace StrChars.Road
open Jvm Sem ClassFile Op Lib Jvm.Stand Jvm.Free Jvm.Free.XT
/-- WHAT COMES BACK, the byte[] as a list of values -/
def QA (Z : State) (x : Addr) (zn : Int32) (cs : List Int32) (h : Heap) (v : Option Value) (h' : Heap) (L : List Loc) : Prop := v = none ∧ (∀ y ∈ L, y.base = x) ∧ RoadKit.Keep h h' [x] ∧ h'.size = h.size + 1 ∧ RoadKit.Exa Z h' x ST ∧ RoadKit.Fld Z h' x ST "value" "[B" (.ref h.size) ∧ RoadKit.Fld Z h' x ST "coder" "B" (.int 0) ∧
  (∃ kb, Z.vm.findClass "[B" = some kb ∧ RoadKit.Arv Z h' h.size kb .byte zn (cs.map fun c => .int (lo8 c)) (.int 0)) ∧
  ∀ (O n d : String) (w : Value), RoadKit.Fld Z h x O n d w → RoadKit.slotOf Z O n d ≠ RoadKit.slotOf Z ST "value" "[B" → RoadKit.slotOf Z O n d ≠ RoadKit.slotOf Z ST "coder" "B" → RoadKit.Fld Z h' x O n d w
/-- **new String(chars) AT A CALL, THE ARRAYS AS LISTS**: the char[] at b holds cs, not empty, no char above 255 -/
theorem backArv {p : Program} {l : Launch} {e : Env} {R : Room} {s : State} {args : Array Value} {below : List Frame} {len W : Nat} {Z : State} {a0 : Array Value} {h : Heap} (hZ : Z.Warmed39 s.vm) (hw : ∀ d ∈ words, d.before a0 Z = true) {kI : Nat} (wi : (Jvm.Cond.instantiable ST kI).before a0 Z = true)
    {x b : Addr} {k : ClassId} {zn z : Int32} {cs : List Int32} {dv v0 c0 : Value} (E : RoadKit.Exa Z h x ST) (V : RoadKit.Fld Z h x ST "value" "[B" v0) (C : RoadKit.Fld Z h x ST "coder" "B" c0) (K : RoadKit.Arv Z h b k .char zn (cs.map Value.int) dv) (S : RoadKit.Sta Z h ST "COMPACT_STRINGS" "Z" (.int z)) (hz : ¬ z = 0)
    (hlen : zn.toNatClampNeg = cs.length) (h0 : 0 < cs.length) (hbig : cs.length ≤ 536870912) (hall : ∀ c ∈ cs, ¬ 255 < c) (hfr : 4 ≤ R.frames) (hlo : W + 65 ≤ R.locals) :
    Back l R p e below s args New1.yN len W (fun P a => a = #[.ref x, .ref b] ∧ P.U.heap = h ∧ P.cells + 1 ≤ R.cells ∧ P.slots + cs.length ≤ R.slots)
      (fun P _ v B => ∃ L, QA Z x zn cs h v B.U.heap L ∧ B.locs = P.locs ++ L ∧ B.cells = P.cells + 1 ∧ B.slots = P.slots + cs.length) := by
  obtain ⟨A, K1, K2, K3, K4, K5, K6⟩ := K
  have e : A.slots.size = cs.length := K3.trans hlen
  have hat : ∀ (i : Nat) (hi : i < cs.length), A.slots[i]? = some (.int cs[i]) := fun i hi => by rw [K5 i (by omega)]; simp [List.getD_eq_getElem?_getD, hi]
  have hcv : ∀ (i : Nat) (hi : i < cs.length), cv A i = cs[i] := fun i hi => by unfold cv; rw [hat i hi]
  have hty : Typed .char A := fun i v hv => by
    have hi : i < A.slots.size := (Array.getElem?_eq_some_iff.mp hv).1
    have q := K5 i hi
    rw [hv] at q
    rw [Option.some.inj q]
    exact K6 i hi
  refine Back.mono (back hZ hw wi E V C K1 hty S hz (by omega) (by omega) (fun i hi => by rw [hcv i (by omega)]; exact hall _ (List.getElem_mem _)) hfr hlo) (fun P a hp => ⟨hp.1, hp.2.1, hp.2.2.1, by rw [e]; exact hp.2.2.2⟩) (fun P a v B hp hq => ?_)
  obtain ⟨L, ⟨q1, q2, q3, q4, q5, q6, q7, ⟨V', v1, v2, v3, v4, v5⟩, q9⟩, hl, hc, hs⟩ := hq
  refine ⟨L, ⟨q1, q2, q3, q4, q5, q6, q7, ⟨V'.cls, v3, V', v1, rfl, by rw [v4, e, hlen], K4, fun i hi => ?_, fun i hi => ?_⟩, q9⟩, hl, hc, by rw [hs, e]⟩
  · have hi' : i < cs.length := by omega
    rw [v5 i (by omega), hcv i hi']; simp [List.getD_eq_getElem?_getD, hi']
  · have hi' : i < cs.length := by omega
    simp only [List.getD_eq_getElem?_getD, List.getElem?_map, List.getElem?_eq_getElem hi', Option.map_some, Option.getD_some]
    exact fits_lo8 _
end StrChars.Road
namespace StrChars.Road
open Jvm Sem ClassFile Op Lib Jvm.Stand Jvm.Free Jvm.Free.XT
/-- WHAT COMES BACK, in the writer's own shape -/
def QV (Z : State) (x : Addr) (N : Int32) (bs : List Int32) (h : Heap) (n0 : Nat) (v : Option Value) (h' : Heap) (L : List Loc) : Prop := v = none ∧ RoadKit.Fr n0 L ∧ RoadKit.Keep h h' [x] ∧ RoadKit.Exa Z h' x ST ∧ RoadKit.Fld Z h' x ST "coder" "B" (.int 0) ∧
  ∃ (t : Addr) (kb : ClassId), n0 ≤ t ∧ h.size ≤ t ∧ ¬ t = x ∧ RoadKit.Fld Z h' x ST "value" "[B" (.ref t) ∧ RoadKit.Arv Z h' t kb .byte N (bs.map Value.int) (.int 0)
/-- **new String(chars) AT A CALL, FOR THE WRITER**: a char[] of n known ints, each 0 to 255 -/
theorem backV {p : Program} {l : Launch} {e : Env} {R : Room} {s : State} {args : Array Value} {below : List Frame} {len W : Nat} {Z : State} {a0 : Array Value} {h : Heap} (hZ : Z.Warmed39 s.vm) (hw : ∀ d ∈ words, d.before a0 Z = true) {kI : Nat} (wi : (Jvm.Cond.instantiable ST kI).before a0 Z = true)
    {x b : Addr} {kC : ClassId} {cs bs : List Int32} {d v0 c0 : Value} {z N : Int32} {n n0 : Nat} (hx0 : n0 ≤ x) (hh0 : n0 ≤ h.size) (E : RoadKit.Exa Z h x ST) (V : RoadKit.Fld Z h x ST "value" "[B" v0) (C : RoadKit.Fld Z h x ST "coder" "B" c0) (K : RoadKit.Arv Z h b kC .char N (cs.map Value.int) d) (S : RoadKit.Sta Z h ST "COMPACT_STRINGS" "Z" (.int z)) (hz : ¬ z = 0)
    (hn : cs.length = n) (hN : N = Int32.ofNat n) (l0 : 0 < n) (l2 : n ≤ 4000) (hp : ∀ c ∈ cs, ¬ c < 0 ∧ ¬ (255 : Int32) < c) (hb : bs = cs.map (fun c => c.toInt8.toInt32)) (hfr : 4 ≤ R.frames) (hlo : W + 65 ≤ R.locals) :
    Back l R p e below s args (⟨"java/lang/String", "<init>", "([C)V"⟩ : MethodName) len W (fun P a => a = #[.ref x, .ref b] ∧ P.U.heap = h ∧ P.cells + 1 ≤ R.cells ∧ P.slots + n ≤ R.slots)
      (fun P _ v B => ∃ L, QV Z x N bs h n0 v B.U.heap L ∧ B.locs = P.locs ++ L ∧ B.cells = P.cells + 1 ∧ B.slots = P.slots + n) := by
  subst hn hN hb
  refine Back.mono (backArv hZ hw wi E V C K S hz (n32 (by omega)) l0 (by omega) (fun c hc => (hp c hc).2) hfr hlo) (fun P a hp => hp) (fun P a v B hp hq => ?_)
  obtain ⟨L, ⟨q1, q2, q3, q4, q5, q6, q7, ⟨kb, v1, v2⟩, q9⟩, hl, hc, hs⟩ := hq
  exact ⟨L, ⟨q1, fun y hy => by rw [q2 y hy]; exact hx0, q3, q5, q7, h.size, kb, hh0, Nat.le_refl _, Nat.ne_of_gt E.lt, q6, by rw [List.map_map]; exact v2⟩, hl, hc, hs⟩
end StrChars.Road
namespace StrChars
open Jvm Sem ClassFile Op Lib Jvm.Stand Jvm.Free.XT Jvm.Free.ALB Jvm.Free.JM Jvm.Free
open Jvm.Lib.Cold (StaticIs)
def hi8 (x : Int32) : Int32 := lo8 (x >>> ((8 : Int32) &&& 31))
/-- what StringUTF16.getChar makes of two bytes -/
def pairCh (u v : Int32) : Int32 := (((u &&& 255) <<< ((0 : Int32) &&& 31)) ||| ((v &&& 255) <<< ((8 : Int32) &&& 31))).toUInt32.toUInt16.toUInt32.toInt32
theorem shr0 (c : Int32) : c >>> ((0 : Int32) &&& 31) = c := by
  have e : ((0 : Int32) &&& 31) = 0 := by decide
  rw [e]
  apply Int32.toBitVec_inj.mp
  rw [Int32.toBitVec_shiftRight]
  have e1 : ((0 : Int32).toBitVec.smod 32) = 0#32 := by decide
  rw [e1, BitVec.sshiftRight_eq']
  exact BitVec.sshiftRight_zero
theorem lo8_and (x : Int32) : (lo8 x &&& 255).toBitVec.toNat = x.toBitVec.toNat % 256 := by
  have h : (lo8 x).toBitVec = (x.toBitVec.signExtend 8).signExtend 32 := by rw [lo8, Int8.toBitVec_toInt32, Int32.toBitVec_toInt8]
  rw [Int32.toBitVec_and, BitVec.toNat_and, h]
  have e : ((x.toBitVec.signExtend 8).signExtend 32).toNat % 256 = x.toBitVec.toNat % 256 := by
    rw [BitVec.toNat_signExtend]
    have hlt := x.toBitVec.isLt
    simp only [BitVec.toNat_setWidth, BitVec.toNat_signExtend]
    split <;> split <;> omega
  rw [← e]
  exact Nat.and_two_pow_sub_one_eq_mod _ 8
theorem pair_says {c : Int32} (h0 : ¬ c < 0) (h1 : ¬ 65535 < c) : pairCh (lo8 c) (hi8 c) = c := by
  rw [Int32.lt_iff_toInt_lt] at h0 h1
  have e0 : (0 : Int32).toInt = 0 := rfl
  have e1 : (65535 : Int32).toInt = 65535 := rfl
  have hc : c.toInt = c.toBitVec.toNat := by
    have := c.toBitVec.isLt
    have e : c.toInt = c.toBitVec.toInt := rfl
    rw [e] at h0 h1
    rw [e]
    rw [BitVec.toInt_eq_toNat_cond] at h0 h1 ⊢
    split at h0 <;> split <;> omega
  have hn : c.toBitVec.toNat < 65536 := by omega
  have a1 := lo8_and c
  have a2 : (hi8 c &&& 255).toBitVec.toNat = c.toBitVec.toNat / 256 := by
    rw [hi8, lo8_and]
    have e : ((8 : Int32) &&& 31) = 8 := by decide
    rw [e, Int32.toBitVec_shiftRight]
    have e2 : ((8 : Int32).toBitVec.smod 32) = 8#32 := by decide
    rw [e2, BitVec.sshiftRight_eq', BitVec.toNat_sshiftRight_of_msb_false (by rw [BitVec.msb_eq_false_iff_two_mul_lt]; omega)]
    show c.toBitVec.toNat >>> 8 % 256 = _
    rw [Nat.shiftRight_eq_div_pow]
    omega
  unfold pairCh
  apply Int32.toBitVec_inj.mp
  apply BitVec.eq_of_toNat_eq
  have f0 : ((0 : Int32) &&& 31) = 0 := by decide
  have f8 : ((8 : Int32) &&& 31) = 8 := by decide
  rw [f0, f8]
  have g : (((lo8 c &&& 255) <<< (0 : Int32)) ||| ((hi8 c &&& 255) <<< (8 : Int32))).toBitVec.toNat = c.toBitVec.toNat := by
    rw [Int32.toBitVec_or, Int32.toBitVec_shiftLeft, Int32.toBitVec_shiftLeft]
    have s0 : ((0 : Int32).toBitVec.smod 32) = 0#32 := by decide
    have s8 : ((8 : Int32).toBitVec.smod 32) = 8#32 := by decide
    rw [s0, s8, BitVec.toNat_or]
    simp only [BitVec.shiftLeft_eq', BitVec.toNat_shiftLeft, a1, a2]
    show (c.toBitVec.toNat % 256) <<< 0 % 2 ^ 32 ||| (c.toBitVec.toNat / 256) <<< 8 % 2 ^ 32 = _
    rw [Nat.shiftLeft_zero, Nat.mod_eq_of_lt (show c.toBitVec.toNat % 256 < 2 ^ 32 by omega), Nat.mod_eq_of_lt (show (c.toBitVec.toNat / 256) <<< 8 < 2 ^ 32 by rw [Nat.shiftLeft_eq]; omega), Nat.or_comm, ← Nat.shiftLeft_add_eq_or_of_lt (by omega), Nat.shiftLeft_eq]
    omega
  show BitVec.toNat (((((lo8 c &&& 255) <<< (0 : Int32)) ||| ((hi8 c &&& 255) <<< (8 : Int32))).toBitVec.setWidth 16).setWidth 32) = _
  rw [BitVec.toNat_setWidth, BitVec.toNat_setWidth, g]
  omega
end StrChars
namespace StrChars
open Jvm Sem ClassFile Op Lib Jvm.Stand Jvm.Free.XT Jvm.Free.ALB Jvm.Free.JM Jvm.Free
open Jvm.Lib.Cold (StaticIs)
theorem shr1 {n : Nat} (h : 2 * n < 2 ^ 31) : Int32.ofNat (2 * n) >>> ((1 : Int32) &&& 31) = Int32.ofNat n := by
  have e : ((1 : Int32) &&& 31) = 1 := by decide
  rw [e]
  apply Int32.toBitVec_inj.mp
  rw [Int32.toBitVec_shiftRight]
  have e1 : ((1 : Int32).toBitVec.smod 32) = 1#32 := by decide
  have hm : (BitVec.ofNat 32 (2 * n)).toNat = 2 * n := by rw [BitVec.toNat_ofNat, Nat.mod_eq_of_lt (by omega)]
  rw [e1, BitVec.sshiftRight_eq']
  apply BitVec.eq_of_toNat_eq
  show ((BitVec.ofNat 32 (2 * n)).sshiftRight 1).toNat = (BitVec.ofNat 32 n).toNat
  rw [BitVec.toNat_sshiftRight_of_msb_false (by rw [BitVec.msb_eq_false_iff_two_mul_lt, hm]; omega), hm, BitVec.toNat_ofNat, Nat.shiftRight_eq_div_pow]
  omega
/-- charAt's cast of a byte read back -/
def chr8 (u : Int32) : Int32 := (u &&& 255).toUInt32.toUInt16.toUInt32.toInt32
theorem chr8_lo8 {c : Int32} (h0 : ¬ c < 0) (h1 : ¬ 255 < c) : chr8 (lo8 c) = c := by
  have t : ∀ k : Fin 256, (Int32.ofNat k.val).toUInt32.toUInt16.toUInt32.toInt32 = Int32.ofNat k.val := by decide +kernel
  unfold chr8
  rw [lo8_mask h0 h1]
  rw [Int32.lt_iff_toInt_lt] at h0 h1
  have e0 : (0 : Int32).toInt = 0 := rfl
  have e1 : (255 : Int32).toInt = 255 := rfl
  obtain ⟨k, hk⟩ : ∃ k : Nat, c.toInt = k := ⟨c.toInt.toNat, by omega⟩
  have hx : c = Int32.ofNat k := Int32.toInt_inj.mp (by rw [hk, Int32.toInt_ofNat_small (by omega)])
  rw [hx]
  exact t ⟨k, by omega⟩
theorem narrow_ch {c : Int32} (h0 : ¬ c < 0) (h1 : ¬ 65535 < c) : narrow .char (.int c) = .int c := by
  have q : narrow .char (.int (pairCh (lo8 c) (hi8 c))) = .int (pairCh (lo8 c) (hi8 c)) := narrow_c _
  rwa [pair_says h0 h1] at q
/-- the array's cell V codes the n chars f 0 .. f (n - 1) by the coder cd, as the JDK does: coder 1 just where some char is above 255 -/
def Cod (cd : Int32) (n : Nat) (f : Nat → Int32) (V : Cell) : Prop := (cd = 0 ∧ V.slots.size = n ∧ ∀ j, j < n → V.slots[j]? = some (.int (lo8 (f j))) ∧ ¬ 255 < f j) ∨ (cd = 1 ∧ V.slots.size = 2 * n ∧ (∀ j, j < n → V.slots[2 * j]? = some (.int (lo8 (f j))) ∧ V.slots[2 * j + 1]? = some (.int (hi8 (f j)))) ∧ ∃ j, j < n ∧ 255 < f j)
theorem Cod.cd {cd : Int32} {n : Nat} {f : Nat → Int32} {V : Cell} (h : Cod cd n f V) : cd = 0 ∨ cd = 1 := h.imp (fun q => q.1) fun q => q.1
theorem Cod.len {cd : Int32} {n : Nat} {f : Nat → Int32} {V : Cell} (h : Cod cd n f V) (hs : V.slots.size < 2 ^ 31) : Int32.ofNat V.slots.size >>> (cd &&& 31) = Int32.ofNat n := by
  rcases h with ⟨rfl, h, -⟩ | ⟨rfl, h, -⟩
  · rw [shr0, h]
  · rw [h, shr1 (by omega)]
/-- **x is a String of the n chars f 0 .. f (n - 1)**, Latin-1 or UTF-16; its array at t has the cell V -/
def Txt (x t : Addr) (V : Cell) (cd : Int32) (n : Nat) (f : Nat → Int32) (U : State) : Prop := Exact "java/lang/String" x U ∧ Has x "java/lang/String" "value" "[B" (.ref t) U ∧ Has x "java/lang/String" "coder" "B" (.int cd) U ∧ XT.Arr .byte t V U ∧ Cod cd n f V ∧ ∀ j, j < n → ¬ f j < 0 ∧ ¬ 65535 < f j
theorem Txt.mv {x t : Addr} {V : Cell} {cd : Int32} {n : Nat} {f : Nat → Int32} {U U' : State} (h : Txt x t V cd n f U) (hal : U.vm.Alike U'.vm) (hh : U'.heap = U.heap) : Txt x t V cd n f U' := ⟨h.1.mv hal hh, h.2.1.mv hal hh, h.2.2.1.mv hal hh, h.2.2.2.1.mv hal hh, h.2.2.2.2⟩
namespace Cdr
def yN : MethodName := ⟨"java/lang/String", "coder", "()B"⟩
abbrev yB : ByteArray := jdk_42_method_152_code
theorem d0 : decode yB 0 = .ok (.getstatic 38, 3) := by decide +kernel
theorem d3 : decode yB 3 = .ok (.ifCond (.eq) 10, 3) := by decide +kernel
theorem d6 : decode yB 6 = .ok (.aload_n 0, 1) := by decide +kernel
theorem d7 : decode yB 7 = .ok (.getfield 15, 3) := by decide +kernel
theorem d10 : decode yB 10 = .ok (.goto 4, 3) := by decide +kernel
theorem d14 : decode yB 14 = .ok (.ireturn, 1) := by decide +kernel
def site : List Cond := [.fieldLink "java/lang/String" 38 "java/lang/String" "COMPACT_STRINGS" "Z", .fieldLink "java/lang/String" 15 "java/lang/String" "coder" "B"]
def tab : Cond := tabOf yN yB 1 (some .byte) site
def P (x : Addr) (cd z : Int32) (args : Array Value) (s : State) : Prop := args = #[.ref x] ∧ Has x "java/lang/String" "coder" "B" (.int cd) s ∧ (cd = 0 ∨ cd = 1) ∧ StaticIs s "java/lang/String" "COMPACT_STRINGS" "Z" (.int z) ∧ ¬ z = 0
def E (cd : Int32) (r : Option Value) (s u : State) : Prop := XT.PureE (some (.int cd)) r s u
theorem law (l : Launch) (x : Addr) (cd z : Int32) : Law l yN 1 0 0 0 yB 1 (some .byte) site (P x cd z) (E cd) [] 0 0 := by
  refine Law.of_walk (plainFor_of_name (by decide +kernel)) (by decide +kernel) (by decide +kernel) (by decide) (fun _ _ h => by rw [h.1]; rfl) (fun _ U U' hal hh h => ⟨h.1, h.2.1.mv hal hh, h.2.2.1, h.2.2.2.1.there hal hh, h.2.2.2.2⟩) (fun r U U' V V' h1 hal h2 h => XT.PureE.mv r U U' V V' h1 hal h2 h) ?_
  intro p e s m args below meth c s₁ X0 hexec hbytes hml hret hlk hnm hown hh0 W hP
  obtain ⟨rfl, hx, hc, s1, hz⟩ := hP
  have c1 : Steps p.tables e below (s₁.setTop (entryFrame m #[.ref x] 1)) (s₁.setTop (mkF m 0 #[.val (.ref x)] [])) := entry rfl
  obtain ⟨T2, X2, q2, st2⟩ := X0.sget hexec hown (wk W (.fieldLink "java/lang/String" 38 "java/lang/String" "COMPACT_STRINGS" "Z")) s1 (fun _ _ h => by rw [hh0]; exact h) (g := (mkF m 0 #[.val (.ref x)] [])) rfl (hb hbytes d0)
  have hh2 := q2.trans hh0
  have c3 : Steps p.tables e below (s₁.setTop (entryFrame m #[.ref x] 1)) (T2.setTop (mkF m 7 #[.val (.ref x)] [.ref x])) := (c1.trans (st2 _ (Steps.refl _))).trans (by
    refine XS.ifNo X2.here hexec rfl (hb hbytes d3) rfl (i0_eq_f hz) ?_
    refine XS.aloadN X2.here hexec rfl (hb hbytes d6) rfl rfl ?_
    exact Steps.refl _)
  obtain ⟨T4, X4, q4, st4⟩ := X2.hget hexec hown (wk W (.fieldLink "java/lang/String" 15 "java/lang/String" "coder" "B")) (hx.mv X2.warmed.alike hh2) (g := (mkF m 7 #[.val (.ref x)] [.ref x])) rfl (rest := []) rfl (hb hbytes d7)
  have c5 : Steps p.tables e below (s₁.setTop (entryFrame m #[.ref x] 1)) (T4.setTop (mkF m 14 #[.val (.ref x)] [.int cd])) := (c3.trans (st4 _ (Steps.refl _))).trans (by
    refine XS.goto X4.here hexec rfl (pc0 := 10) rfl (hb hbytes d10) (by decide) rfl ?_
    exact Steps.refl _)
  exact ⟨T4, some (.int cd), _, _, _, X4, rfl, rfl, rfl, (fun h => by cases h), ⟨rfl, q4.trans hh2⟩, fun fs hl => c5.trans (X4.ireturnOut hexec hret (by rcases hc with rfl | rfl <;> rfl) (Or.inr (Or.inr (Or.inl rfl))) (hb hbytes d14) hl)⟩
end Cdr
namespace Len
def yN : MethodName := ⟨"java/lang/String", "length", "()I"⟩
abbrev yB : ByteArray := jdk_42_method_54_code
theorem d0 : decode yB 0 = .ok (.aload_n 0, 1) := by decide +kernel
theorem d1 : decode yB 1 = .ok (.getfield 9, 3) := by decide +kernel
theorem d4 : decode yB 4 = .ok (.arraylength, 1) := by decide +kernel
theorem d5 : decode yB 5 = .ok (.aload_n 0, 1) := by decide +kernel
theorem d6 : decode yB 6 = .ok (.invokevirtual 335, 3) := by decide +kernel
theorem d9 : decode yB 9 = .ok (.ishr, 1) := by decide +kernel
theorem d10 : decode yB 10 = .ok (.ireturn, 1) := by decide +kernel
def site : List Cond := [.fieldLink "java/lang/String" 9 "java/lang/String" "value" "[B", Cdr.tab] ++ virtW "java/lang/String" 335 "java/lang/String" Cdr.yN Cdr.yN
def tab : Cond := tabOf yN yB 1 (some .int) site
def P (x t : Addr) (V : Cell) (cd : Int32) (n : Nat) (f : Nat → Int32) (z : Int32) (args : Array Value) (s : State) : Prop := args = #[.ref x] ∧ Txt x t V cd n f s ∧ StaticIs s "java/lang/String" "COMPACT_STRINGS" "Z" (.int z) ∧ ¬ z = 0
def E (n : Nat) (r : Option Value) (s u : State) : Prop := XT.PureE (some (.int (Int32.ofNat n))) r s u
/-- length() of a String of n chars, in either coding -/
theorem law (l : Launch) (x t : Addr) (V : Cell) (cd : Int32) (n : Nat) (f : Nat → Int32) (z : Int32) : Law l yN 1 0 1 13 yB 1 (some .int) site (P x t V cd n f z) (E n) [] 0 0 := by
  refine Law.of_walk (plainFor_of_name (by decide +kernel)) (by decide +kernel) (by decide +kernel) (by decide) (fun _ _ h => by rw [h.1]; rfl) (fun _ U U' hal hh h => ⟨h.1, h.2.1.mv hal hh, h.2.2.1.there hal hh, h.2.2.2⟩) (fun r U U' V V' h1 hal h2 h => XT.PureE.mv r U U' V V' h1 hal h2 h) ?_
  intro p e s m args below meth c s₁ X0 hexec hbytes hml hret hlk hnm hown hh0 W hP
  obtain ⟨rfl, hx, s1, hz⟩ := hP
  have v31 := hx.2.2.2.1.2.2.2
  have c1 : Steps p.tables e below (s₁.setTop (entryFrame m #[.ref x] 1)) (s₁.setTop (mkF m 1 #[.val (.ref x)] [.ref x])) := Steps.trans (entry rfl) (by
    show Steps p.tables e below (s₁.setTop (mkF m 0 #[.val (.ref x)] [])) _
    refine XS.aloadN X0.here hexec rfl (hb hbytes d0) rfl rfl ?_
    exact Steps.refl _)
  obtain ⟨T2, X2, q2, st2⟩ := X0.hget hexec hown (wk W (.fieldLink "java/lang/String" 9 "java/lang/String" "value" "[B")) (hx.mv X0.warmed.alike hh0).2.1 (g := (mkF m 1 #[.val (.ref x)] [.ref x])) rfl (rest := []) rfl (hb hbytes d1)
  have hh2 := q2.trans hh0
  have hx2 := hx.mv X2.warmed.alike hh2
  have c3 : Steps p.tables e below (s₁.setTop (entryFrame m #[.ref x] 1)) (T2.setTop (mkF m 6 #[.val (.ref x)] [.ref x, .int (Int32.ofNat V.slots.size)])) := (c1.trans (st2 _ (Steps.refl _))).trans (by
    refine X2.alen hexec hx2.2.2.2.1 rfl rfl (hb hbytes d4) ?_
    refine XS.aloadN X2.here hexec rfl (hb hbytes d5) rfl rfl ?_
    exact Steps.refl _)
  obtain ⟨v4, T4, X4, E4, g4⟩ := X2.callV hexec (Cdr.law l x cd z) hown (wks W (virtW "java/lang/String" 335 "java/lang/String" Cdr.yN Cdr.yN)) rfl (by decide) (wk W Cdr.tab) (W := 1) (Nat.le_of_ble_eq_true rfl) (Nat.le_of_ble_eq_true rfl) (Nat.le_refl _) (Nat.le_refl _) (hx2.1.fc X2.warmed.alike) hx2.1.is (g := (mkF m 6 #[.val (.ref x)] [.ref x, .int (Int32.ofNat V.slots.size)])) rfl (by rw [hml]; rfl) c3 (argsL := []) (rest := [.int (Int32.ofNat V.slots.size)]) rfl rfl (by show 2 * 0 + (1 + 0) ≤ _; decide) (hb hbytes d6) (⟨rfl, hx2.2.2.1, hx.2.2.2.2.1.cd, s1.there X2.warmed.alike hh2, hz⟩)
  obtain ⟨rfl, q4⟩ := E4
  have c5 : Steps p.tables e below (s₁.setTop (entryFrame m #[.ref x] 1)) (T4.setTop (mkF m 10 #[.val (.ref x)] [.int (Int32.ofNat V.slots.size >>> (cd &&& 31))])) := Steps.trans g4 (by
    refine ishr X4.here hexec rfl (hb hbytes d9) rfl ?_
    exact Steps.refl _)
  rw [hx.2.2.2.2.1.len v31] at c5
  exact ⟨T4, some (.int (Int32.ofNat n)), _, _, _, X4, rfl, rfl, rfl, (fun h => by cases h), ⟨rfl, q4.trans hh2⟩, fun fs hl => c5.trans (X4.ireturnOut hexec hret rfl (Or.inl rfl) (hb hbytes d10) hl)⟩
theorem pays {l : Launch} {R : Room} {p : Program} {e : Env} {below : List Frame} {s : State} {sargs : Array Value} {len W : Nat} (x t : Addr) (V : Cell) (cd : Int32) (n : Nat) (f : Nat → Int32) (z : Int32) (htab : tab.before sargs s = true) (hfr : 2 ≤ R.frames) (hlo : W + 25 ≤ R.locals) :
    Back l R p e below s sargs yN len W (fun A₁ a₁ => A₁.cells + 0 ≤ R.cells ∧ A₁.slots + 0 ≤ R.slots ∧ P x t V cd n f z a₁ A₁.U) (fun A₁ _ v₁ B₁ => E n v₁ A₁.U B₁.U ∧ B₁.locs = A₁.locs ++ [] ∧ B₁.cells = A₁.cells + 0 ∧ B₁.slots = A₁.slots + 0) :=
  (law l x t V cd n f z).pays htab hfr (by omega)
end Len
namespace IsL
def yN : MethodName := ⟨"java/lang/String", "isLatin1", "()Z"⟩
abbrev yB : ByteArray := jdk_42_method_154_code
theorem d0 : decode yB 0 = .ok (.getstatic 38, 3) := by decide +kernel
theorem d3 : decode yB 3 = .ok (.ifCond (.eq) 14, 3) := by decide +kernel
theorem d6 : decode yB 6 = .ok (.aload_n 0, 1) := by decide +kernel
theorem d7 : decode yB 7 = .ok (.getfield 15, 3) := by decide +kernel
theorem d10 : decode yB 10 = .ok (.ifCond (.ne) 7, 3) := by decide +kernel
theorem d13 : decode yB 13 = .ok (.iconst 1, 1) := by decide +kernel
theorem d14 : decode yB 14 = .ok (.goto 4, 3) := by decide +kernel
theorem d17 : decode yB 17 = .ok (.iconst 0, 1) := by decide +kernel
theorem d18 : decode yB 18 = .ok (.ireturn, 1) := by decide +kernel
def site : List Cond := [.fieldLink "java/lang/String" 38 "java/lang/String" "COMPACT_STRINGS" "Z", .fieldLink "java/lang/String" 15 "java/lang/String" "coder" "B"]
def tab : Cond := tabOf yN yB 1 (some .boolean) site
def P (x : Addr) (cd z : Int32) (args : Array Value) (s : State) : Prop := args = #[.ref x] ∧ Has x "java/lang/String" "coder" "B" (.int cd) s ∧ (cd = 0 ∨ cd = 1) ∧ StaticIs s "java/lang/String" "COMPACT_STRINGS" "Z" (.int z) ∧ ¬ z = 0
def E (cd : Int32) (r : Option Value) (s u : State) : Prop := XT.PureE (some (.int (1 - cd))) r s u
theorem law (l : Launch) (x : Addr) (cd z : Int32) : Law l yN 1 0 0 0 yB 1 (some .boolean) site (P x cd z) (E cd) [] 0 0 := by
  refine Law.of_walk (plainFor_of_name (by decide +kernel)) (by decide +kernel) (by decide +kernel) (by decide) (fun _ _ h => by rw [h.1]; rfl) (fun _ U U' hal hh h => ⟨h.1, h.2.1.mv hal hh, h.2.2.1, h.2.2.2.1.there hal hh, h.2.2.2.2⟩) (fun r U U' V V' h1 hal h2 h => XT.PureE.mv r U U' V V' h1 hal h2 h) ?_
  intro p e s m args below meth c s₁ X0 hexec hbytes hml hret hlk hnm hown hh0 W hP
  obtain ⟨rfl, hx, hc, s1, hz⟩ := hP
  have c1 : Steps p.tables e below (s₁.setTop (entryFrame m #[.ref x] 1)) (s₁.setTop (mkF m 0 #[.val (.ref x)] [])) := entry rfl
  obtain ⟨T2, X2, q2, st2⟩ := X0.sget hexec hown (wk W (.fieldLink "java/lang/String" 38 "java/lang/String" "COMPACT_STRINGS" "Z")) s1 (fun _ _ h => by rw [hh0]; exact h) (g := (mkF m 0 #[.val (.ref x)] [])) rfl (hb hbytes d0)
  have hh2 := q2.trans hh0
  have c3 : Steps p.tables e below (s₁.setTop (entryFrame m #[.ref x] 1)) (T2.setTop (mkF m 7 #[.val (.ref x)] [.ref x])) := (c1.trans (st2 _ (Steps.refl _))).trans (by
    refine XS.ifNo X2.here hexec rfl (hb hbytes d3) rfl (i0_eq_f hz) ?_
    refine XS.aloadN X2.here hexec rfl (hb hbytes d6) rfl rfl ?_
    exact Steps.refl _)
  obtain ⟨T4, X4, q4, st4⟩ := X2.hget hexec hown (wk W (.fieldLink "java/lang/String" 15 "java/lang/String" "coder" "B")) (hx.mv X2.warmed.alike hh2) (g := (mkF m 7 #[.val (.ref x)] [.ref x])) rfl (rest := []) rfl (hb hbytes d7)
  have c5 : Steps p.tables e below (s₁.setTop (entryFrame m #[.ref x] 1)) (T4.setTop (mkF m 10 #[.val (.ref x)] [.int cd])) := c3.trans (st4 _ (Steps.refl _))
  have c6 : Steps p.tables e below (s₁.setTop (entryFrame m #[.ref x] 1)) (T4.setTop (mkF m 18 #[.val (.ref x)] [.int (1 - cd)])) := by
    rcases hc with rfl | rfl
    · exact c5.trans (by
        refine XS.ifNo X4.here hexec rfl (hb hbytes d10) rfl (i0_ne_f rfl) ?_
        refine iconstV X4.here hexec rfl 1 (hb hbytes d13) (by decide) ?_
        refine XS.goto X4.here hexec rfl (pc0 := 14) rfl (hb hbytes d14) (by decide) rfl ?_
        exact Steps.refl _)
    · exact c5.trans (by
        refine XS.ifYes X4.here hexec rfl (pc0 := 10) rfl (hb hbytes d10) rfl (i0_ne_t (by decide)) (by decide) rfl ?_
        refine iconstV X4.here hexec rfl 0 (hb hbytes d17) (by decide) ?_
        exact Steps.refl _)
  exact ⟨T4, some (.int (1 - cd)), _, _, _, X4, rfl, rfl, rfl, (fun h => by cases h), ⟨rfl, q4.trans hh2⟩, fun fs hl => c6.trans (X4.ireturnOut hexec hret (by rcases hc with rfl | rfl <;> rfl) (Or.inr (Or.inl rfl)) (hb hbytes d18) hl)⟩
end IsL
namespace LChA
def yN : MethodName := ⟨"java/lang/StringLatin1", "charAt", "([BI)C"⟩
abbrev yB : ByteArray := jdk_43_method_2_code
theorem d0 : decode yB 0 = .ok (.iload_n 1, 1) := by decide +kernel
theorem d1 : decode yB 1 = .ok (.aload_n 0, 1) := by decide +kernel
theorem d2 : decode yB 2 = .ok (.arraylength, 1) := by decide +kernel
theorem d3 : decode yB 3 = .ok (.invokestatic 9, 3) := by decide +kernel
theorem d6 : decode yB 6 = .ok (.aload_n 0, 1) := by decide +kernel
theorem d7 : decode yB 7 = .ok (.iload_n 1, 1) := by decide +kernel
theorem d8 : decode yB 8 = .ok (.baload, 1) := by decide +kernel
theorem d9 : decode yB 9 = .ok (.sipush 255, 3) := by decide +kernel
theorem d12 : decode yB 12 = .ok (.iand, 1) := by decide +kernel
theorem d13 : decode yB 13 = .ok (.i2c, 1) := by decide +kernel
theorem d14 : decode yB 14 = .ok (.ireturn, 1) := by decide +kernel
def site : List Cond := [JO.Str_checkIndex.tab] ++ staticW "java/lang/StringLatin1" 9 JO.Str_checkIndex.yN
def tab : Cond := tabOf yN yB 2 (some .char) site
def P (t : Addr) (V : Cell) (i : Nat) (u : Int32) (fm : Value) (args : Array Value) (s : State) : Prop := args = #[.ref t, .int (Int32.ofNat i)] ∧ XT.Arr .byte t V s ∧ V.slots[i]? = some (.int u) ∧ (StaticIs s "jdk/internal/util/Preconditions" "SIOOBE_FORMATTER" "Ljava/util/function/BiFunction;" fm ∧ fm.isRef = true)
def E (u : Int32) (r : Option Value) (s w : State) : Prop := XT.PureE (some (.int (chr8 u))) r s w
theorem law (l : Launch) (t : Addr) (V : Cell) (i : Nat) (u : Int32) (fm : Value) : Law l yN 2 2 2 27 yB 2 (some .char) site (P t V i u fm) (E u) [] 0 0 := by
  refine Law.of_walk (plainFor_of_name (by decide +kernel)) (by decide +kernel) (by decide +kernel) (by decide) (fun _ _ h => by rw [h.1]; rfl) (fun _ U U' hal hh h => ⟨h.1, h.2.1.mv hal hh, h.2.2.1, h.2.2.2.1.there hal hh, h.2.2.2.2⟩) (fun r U U' V V' h1 hal h2 h => XT.PureE.mv r U U' V V' h1 hal h2 h) ?_
  intro p e s m args below meth c s₁ X0 hexec hbytes hml hret hlk hnm hown hh0 W hP
  obtain ⟨rfl, hV, hu, s1, rf⟩ := hP
  have v31 := hV.2.2.2
  have hi : i < V.slots.size := (Array.getElem?_eq_some_iff.mp hu).1
  have c1 : Steps p.tables e below (s₁.setTop (entryFrame m #[.ref t, .int (Int32.ofNat i)] 2)) (s₁.setTop (mkF m 0 #[.val (.ref t), .val (.int (Int32.ofNat i))] [])) := entry rfl
  have c2 : Steps p.tables e below (s₁.setTop (entryFrame m #[.ref t, .int (Int32.ofNat i)] 2)) (s₁.setTop (mkF m 3 #[.val (.ref t), .val (.int (Int32.ofNat i))] [.int (Int32.ofNat V.slots.size), .int (Int32.ofNat i)])) := c1.trans (by
    refine XS.iloadN X0.here hexec rfl (hb hbytes d0) rfl ?_
    refine XS.aloadN X0.here hexec rfl (hb hbytes d1) rfl rfl ?_
    refine X0.alen hexec (hV.mv X0.warmed.alike hh0) rfl rfl (hb hbytes d2) ?_
    exact Steps.refl _)
  obtain ⟨v3, T3, X3, E3, g3⟩ := X0.callS hexec (JO.Str_checkIndex.law l (Int32.ofNat i) (Int32.ofNat V.slots.size) fm) hown (wks W (staticW "java/lang/StringLatin1" 9 JO.Str_checkIndex.yN)) (wk W JO.Str_checkIndex.tab) (W := 0) (Nat.le_of_ble_eq_true rfl) (Nat.le_of_ble_eq_true rfl) (Nat.le_refl _) (Nat.le_refl _) (g := (mkF m 3 #[.val (.ref t), .val (.int (Int32.ofNat i))] [.int (Int32.ofNat V.slots.size), .int (Int32.ofNat i)])) rfl (by rw [hml]; rfl) c2 (argsL := [.int (Int32.ofNat i), .int (Int32.ofNat V.slots.size)]) (rest := []) rfl rfl (by show 2 * 0 + 0 ≤ _; decide) (hb hbytes d3) (⟨rfl, rf, s1.there X0.warmed.alike hh0, Int32.ofNat_not_neg (by omega), lt32 v31 hi⟩)
  obtain ⟨rfl, q3⟩ := E3
  have hh3 := q3.trans hh0
  have c4 : Steps p.tables e below (s₁.setTop (entryFrame m #[.ref t, .int (Int32.ofNat i)] 2)) (T3.setTop (mkF m 14 #[.val (.ref t), .val (.int (Int32.ofNat i))] [.int (chr8 u)])) := Steps.trans g3 (by
    refine XS.aloadN X3.here hexec rfl (hb hbytes d6) rfl rfl ?_
    refine XS.iloadN X3.here hexec rfl (hb hbytes d7) rfl ?_
    refine X3.aget hexec (hV.mv X3.warmed.alike hh3) rfl hu rfl rfl (hb hbytes d8) ?_
    refine sipushV X3.here hexec rfl 255 (hb hbytes d9) (by decide) ?_
    refine XS.iand X3.here hexec rfl (hb hbytes d12) rfl ?_
    refine i2c X3.here hexec rfl (hb hbytes d13) rfl ?_
    exact Steps.refl _)
  exact ⟨T3, some (.int (chr8 u)), _, _, _, X3, rfl, rfl, rfl, (fun h => by cases h), ⟨rfl, hh3⟩, fun fs hl => c4.trans (X3.ireturnOut hexec hret (narrow_c _) (Or.inr (Or.inr (Or.inr (Or.inl rfl)))) (hb hbytes d14) hl)⟩
end LChA
end StrChars
namespace StrChars.Road
open Jvm Sem ClassFile Op Lib Jvm.Stand Jvm.Free Jvm.Free.XT
open Jvm.Lib.Cold (StaticIs)
theorem consq {a : Array Value} {s : State} {c : Jvm.Cond} {L : List Jvm.Cond} (h0 : c.before a s = true) (h : ∀ w ∈ L, w.before a s = true) : ∀ w ∈ c :: L, w.before a s = true := fun w hw => (List.mem_cons.mp hw).elim (fun e => e ▸ h0) (h w)
/-- the words of String.length(), either coding -/
abbrev wordsLen : List Jvm.Cond := [.code Len.yN Len.yB 1 (some .int), .initialized ST, .fieldLink ST 9 ST "value" "[B", .fieldLink ST 38 ST "COMPACT_STRINGS" "Z", .fieldLink ST 15 ST "coder" "B", .code Cdr.yN Cdr.yB 1 (some .byte), .methodLink ST 335 Cdr.yN, .declares Cdr.yN, .selects ST Cdr.yN Cdr.yN, .instanceMethod Cdr.yN]
theorem tabLen_of {a : Array Value} {s : State} (h : ∀ w ∈ wordsLen, w.before a s = true) : Len.tab.before a s = true := by
  have hc : Cdr.tab.before a s = true := unparts (wk h (.code Cdr.yN Cdr.yB 1 (some .byte))) (wks h (.initialized Cdr.yN.cls :: Cdr.site))
  have q := consq hc h
  exact unparts (wk q (.code Len.yN Len.yB 1 (some .int))) (wks q (.initialized Len.yN.cls :: Len.site))
theorem movedLen {Z s : State} {a0 args : Array Value} (hZ : Z.Warmed39 s.vm) (hw : ∀ d ∈ wordsLen, d.before a0 Z = true) : ∀ d ∈ wordsLen, d.before args s = true := fun d hd => by
  have q := hw d hd
  have t : ∀ d ∈ wordsLen, d = .arrayClass .byte ∨ (d.onTables && d.keepsFace) = true := by decide +kernel
  rcases t d hd with rfl | t
  · exact RoadKit.mvA hZ q
  · exact RoadKit.mv hZ q t
/-- the bytes of the chars cs, low before high -/
def wideBytes : List Int32 → List Value
  | [] => []
  | c :: cs => .int (lo8 c) :: .int (hi8 c) :: wideBytes cs
theorem wide_lo (d : Value) : ∀ (cs : List Int32) (j : Nat), j < cs.length → (wideBytes cs).getD (2 * j) d = .int (lo8 (cs.getD j 0))
  | [], j, h => absurd h (Nat.not_lt_zero j)
  | c :: cs, 0, _ => rfl
  | c :: cs, j + 1, h => by
    have q := wide_lo d cs j (by simpa using h)
    rw [show 2 * (j + 1) = 2 * j + 1 + 1 from by omega]
    simpa [wideBytes] using q
theorem wide_hi (d : Value) : ∀ (cs : List Int32) (j : Nat), j < cs.length → (wideBytes cs).getD (2 * j + 1) d = .int (hi8 (cs.getD j 0))
  | [], j, h => absurd h (Nat.not_lt_zero j)
  | c :: cs, 0, _ => rfl
  | c :: cs, j + 1, h => by
    have q := wide_hi d cs j (by simpa using h)
    rw [show 2 * (j + 1) + 1 = 2 * j + 1 + 1 + 1 from by omega]
    simpa [wideBytes] using q
theorem low_at (d : Value) (cs : List Int32) (j : Nat) (h : j < cs.length) : (cs.map fun c => Value.int (lo8 c)).getD j d = .int (lo8 (cs.getD j 0)) := by
  simp [List.getD_eq_getElem?_getD, h]
/-- an array of N2 bytes vs codes the chars cs by the coder cd -/
def CodA (cs : List Int32) (cd N2 : Int32) (vs : List Value) : Prop := (cd = 0 ∧ N2 = Int32.ofNat cs.length ∧ vs = (cs.map fun c => Value.int (lo8 c)) ∧ ∀ c ∈ cs, ¬ 255 < c) ∨ (cd = 1 ∧ N2 = Int32.ofNat (2 * cs.length) ∧ vs = wideBytes cs ∧ ∃ c ∈ cs, 255 < c)
theorem CodA.cod {cs : List Int32} {cd N2 : Int32} {vs : List Value} {V : Cell} (h : CodA cs cd N2 vs) (hn : 2 * cs.length < 2 ^ 31) (hs : V.slots.size = N2.toNatClampNeg) (hv : RoadKit.Has V vs (.int 0)) : Cod cd cs.length (fun j => cs.getD j 0) V := by
  rcases h with ⟨rfl, rfl, rfl, h⟩ | ⟨rfl, rfl, rfl, c, hc, hw⟩
  · rw [n32 (by omega)] at hs
    exact Or.inl ⟨rfl, hs, fun j hj => ⟨by rw [hv j (by omega), low_at _ _ _ hj], by
      have e : cs.getD j 0 = cs[j] := by simp [List.getD_eq_getElem?_getD, hj]
      show ¬ 255 < cs.getD j 0
      rw [e]; exact h _ (List.getElem_mem _)⟩⟩
  · rw [n32 (by omega)] at hs
    obtain ⟨j, hj, rfl⟩ := List.getElem_of_mem hc
    exact Or.inr ⟨rfl, hs, fun j hj => ⟨by rw [hv _ (by omega), wide_lo _ _ _ hj], by rw [hv _ (by omega), wide_hi _ _ _ hj]⟩, j, hj, by
      have e : cs.getD j 0 = cs[j] := by simp [List.getD_eq_getElem?_getD, hj]
      show 255 < cs.getD j 0
      rw [e]; exact hw⟩
/-- an object of exactly java/lang/String, its two fields found: as the laws ask it -/
theorem strObj {Z U : State} {a0 : Array Value} {kI : Nat} (wi : (Jvm.Cond.instantiable ST kI).before a0 Z = true) (al : Z.vm.Alike U.vm) {x : Addr} {v0 c0 : Value} (E : RoadKit.Exa Z U.heap x ST) (V : RoadKit.Fld Z U.heap x ST "value" "[B" v0) (C : RoadKit.Fld Z U.heap x ST "coder" "B" c0) :
    ∃ (D : Cell) (fV fC : Field), Blank ST x D U ∧ Found ST "value" "[B" fV U ∧ Found ST "coder" "B" fC U ∧ D.slots[fV.slot]? = some v0 ∧ D.slots[fC.slot]? = some c0 ∧ RoadKit.slotOf Z ST "value" "[B" = fV.slot ∧ RoadKit.slotOf Z ST "coder" "B" = fC.slot := by
  obtain ⟨D, cfV, kV, iV, fV, hD, gV, stV, knV, obV, asV, slV⟩ := V
  obtain ⟨D', cfC, kC, iC, fC, hD', gC, stC, -, -, asC, slC⟩ := C
  cases hD.symm.trans hD'
  obtain ⟨D2, kD, e1, e2, e3, e4, e5⟩ := E
  cases hD.symm.trans e1
  obtain ⟨c2, k2, i1, i2, i3, -⟩ := Cond.instantiable_spec wi
  cases e2.symm.trans i1
  cases e3.symm.trans i2
  obtain ⟨kU, u1, u2⟩ := al.2.2 _ _ e3
  exact ⟨D, fV, fC, ⟨hD, ⟨knV, fun q hq => by rw [hq] at obV; cases obV⟩, by rw [al.findClass]; exact e2, kU, u1, by rw [u2]; exact i3, by rw [u2]; exact e5 i3⟩, ⟨SBG.found_only al ⟨cfV, kV, iV, gV⟩, stV⟩, ⟨SBG.found_only al ⟨cfC, kC, iC, gC⟩, stC⟩, slV, slC, by simp [RoadKit.slotOf, gV], by simp [RoadKit.slotOf, gC]⟩
theorem sta_is {Z U : State} (al : Z.vm.Alike U.vm) {C n d : String} {v : Value} (S : RoadKit.Sta Z U.heap C n d v) : StaticIs U C n d v := by
  obtain ⟨cfS, iS, kS, fS, st, cS, t1, t2, t3, t4, t5, t6, t7⟩ := S
  exact StaticIs.there (s := { Z with heap := U.heap }) ⟨cfS, iS, kS, fS, st, cS, t1, t2, t3, t4, t5, (fun q => by rw [q] at t6; cases t6), t7⟩ al rfl
/-- **length() OF SUCH A STRING** -/
theorem lenW {p : Program} {l : Launch} {e : Env} {R : Room} {s : State} {args : Array Value} {below : List Frame} {len W : Nat} {Z : State} {a0 : Array Value} {h : Heap} (hZ : Z.Warmed39 s.vm) (hw : ∀ d ∈ wordsLen, d.before a0 Z = true) {kI : Nat} (wi : (Jvm.Cond.instantiable ST kI).before a0 Z = true)
    {x t : Addr} {kb : ClassId} {cs : List Int32} {cd N2 z : Int32} {vs : List Value} (E : RoadKit.Exa Z h x ST) (V : RoadKit.Fld Z h x ST "value" "[B" (.ref t)) (C : RoadKit.Fld Z h x ST "coder" "B" (.int cd)) (K : RoadKit.Arv Z h t kb .byte N2 vs (.int 0)) (hc : CodA cs cd N2 vs) (hb : ∀ c ∈ cs, ¬ c < 0 ∧ ¬ (65535 : Int32) < c)
    (S : RoadKit.Sta Z h ST "COMPACT_STRINGS" "Z" (.int z)) (hz : ¬ z = 0) (l2 : cs.length ≤ 4000) (hfr : 2 ≤ R.frames) (hlo : W + 25 ≤ R.locals) :
    Back l R p e below s args (⟨"java/lang/String", "length", "()I"⟩ : MethodName) len W (fun P a => a = #[.ref x] ∧ P.U.heap = h ∧ P.cells + 0 ≤ R.cells ∧ P.slots + 0 ≤ R.slots)
      (fun P _ v B => ∃ L, (v = some (.int (Int32.ofNat cs.length)) ∧ L = [] ∧ B.U.heap = h) ∧ B.locs = P.locs ++ L ∧ B.cells = P.cells + 0 ∧ B.slots = P.slots + 0) := by
  obtain ⟨A, K1, K2, K3, K4, K5, K6⟩ := K
  have hcod := hc.cod (by omega) K3 K5
  intro m meth c P g ig mk a X hg hsize hdg hW hn hp'
  obtain ⟨rfl, rfl, r1, r2⟩ := hp'
  have al : Z.vm.Alike P.U.vm := hZ.alike.trans X.warmed.alike
  obtain ⟨D, fV, fC, hB, F1, F2, g1, g2, -, -⟩ := strObj wi al E V C
  have hx : Txt x t A cd cs.length (fun j => cs.getD j 0) P.U := ⟨⟨_, hB.2.2.1, D, hB.1, rfl, by cases q : D.vm <;> first | rfl | exact absurd q (hB.2.1.2 _)⟩, Has.of hB F1 g1, Has.of hB F2 g2, ⟨K1.1, State.isArrayOf_alike al K1.2.1, K1.2.2, by rcases hcod with ⟨-, q, -⟩ | ⟨-, q, -⟩ <;> omega⟩, hcod, fun j hj => by
    have e : cs.getD j 0 = cs[j] := by simp [List.getD_eq_getElem?_getD, hj]
    show ¬ cs.getD j 0 < 0 ∧ ¬ 65535 < cs.getD j 0
    rw [e]; exact hb _ (List.getElem_mem _)⟩
  obtain ⟨v, B, X', ⟨⟨hv, hh⟩, hl, hk, hs⟩, st⟩ := Len.pays x t A cd cs.length (fun j => cs.getD j 0) z (tabLen_of (movedLen hZ hw)) hfr hlo m meth c P g ig mk _ X hg hsize hdg hW hn ⟨r1, r2, rfl, hx, sta_is al S, hz⟩
  exact ⟨v, B, X', ⟨[], ⟨hv, rfl, hh⟩, hl, hk, hs⟩, st⟩
end StrChars.Road
namespace StrChars.Road
open Jvm Sem ClassFile Op Lib Jvm.Stand Jvm.Free Jvm.Free.XT
open Jvm.Lib.Cold (StaticIs)
/-- the road's facts of a String, as the laws ask it -/
theorem txt_of {Z U : State} {a0 : Array Value} {kI : Nat} (wi : (Jvm.Cond.instantiable ST kI).before a0 Z = true) (al : Z.vm.Alike U.vm) {x t : Addr} {kb : ClassId} {cs : List Int32} {cd N2 : Int32} {vs : List Value} (E : RoadKit.Exa Z U.heap x ST) (V : RoadKit.Fld Z U.heap x ST "value" "[B" (.ref t)) (C : RoadKit.Fld Z U.heap x ST "coder" "B" (.int cd)) (K : RoadKit.Arv Z U.heap t kb .byte N2 vs (.int 0)) (hc : CodA cs cd N2 vs) (hb : ∀ c ∈ cs, ¬ c < 0 ∧ ¬ (65535 : Int32) < c) (l2 : cs.length ≤ 4000) :
    ∃ A, Txt x t A cd cs.length (fun j => cs.getD j 0) U := by
  obtain ⟨A, K1, K2, K3, K4, K5, K6⟩ := K
  have hcod := hc.cod (by omega) K3 K5
  obtain ⟨D, fV, fC, hB, F1, F2, g1, g2, -, -⟩ := strObj wi al E V C
  exact ⟨A, ⟨_, hB.2.2.1, D, hB.1, rfl, by cases q : D.vm <;> first | rfl | exact absurd q (hB.2.1.2 _)⟩, Has.of hB F1 g1, Has.of hB F2 g2, ⟨K1.1, State.isArrayOf_alike al K1.2.1, K1.2.2, by rcases hcod with ⟨-, q, -⟩ | ⟨-, q, -⟩ <;> omega⟩, hcod, fun j hj => by
    have e : cs.getD j 0 = cs[j] := by simp [List.getD_eq_getElem?_getD, hj]
    show ¬ cs.getD j 0 < 0 ∧ ¬ 65535 < cs.getD j 0
    rw [e]; exact hb _ (List.getElem_mem _)⟩
end StrChars.Road
namespace StrChars
open Jvm Sem ClassFile Op Lib Jvm.Stand Jvm.Free.XT Jvm.Free.ALB Jvm.Free.JM Jvm.Free
open Jvm.Lib.Cold (StaticIs)
namespace ChN
def yN : MethodName := ⟨"java/lang/String", "charAt", "(I)C"⟩
abbrev yB : ByteArray := jdk_42_method_56_code
theorem d0 : decode yB 0 = .ok (.aload_n 0, 1) := by decide +kernel
theorem d1 : decode yB 1 = .ok (.invokevirtual 492, 3) := by decide +kernel
theorem d4 : decode yB 4 = .ok (.ifCond (.eq) 12, 3) := by decide +kernel
theorem d7 : decode yB 7 = .ok (.aload_n 0, 1) := by decide +kernel
theorem d8 : decode yB 8 = .ok (.getfield 9, 3) := by decide +kernel
theorem d11 : decode yB 11 = .ok (.iload_n 1, 1) := by decide +kernel
theorem d12 : decode yB 12 = .ok (.invokestatic 495, 3) := by decide +kernel
theorem d15 : decode yB 15 = .ok (.ireturn, 1) := by decide +kernel
def site : List Cond := [.fieldLink "java/lang/String" 9 "java/lang/String" "value" "[B", IsL.tab, LChA.tab] ++ virtW "java/lang/String" 492 "java/lang/String" IsL.yN IsL.yN ++ staticW "java/lang/String" 495 LChA.yN
def tab : Cond := tabOf yN yB 2 (some .char) site
def P (x t : Addr) (V : Cell) (n : Nat) (f : Nat → Int32) (z : Int32) (fm : Value) (i : Nat) (args : Array Value) (s : State) : Prop := args = #[.ref x, .int (Int32.ofNat i)] ∧ Txt x t V 0 n f s ∧ i < n ∧ StaticIs s "java/lang/String" "COMPACT_STRINGS" "Z" (.int z) ∧ ¬ z = 0 ∧ StaticIs s "jdk/internal/util/Preconditions" "SIOOBE_FORMATTER" "Ljava/util/function/BiFunction;" fm ∧ fm.isRef = true
def E (f : Nat → Int32) (i : Nat) (r : Option Value) (s u : State) : Prop := XT.PureE (some (.int (f i))) r s u
/-- charAt(i) of a Latin-1 String of n chars, i < n: f i -/
theorem law (l : Launch) (x t : Addr) (V : Cell) (n : Nat) (f : Nat → Int32) (z : Int32) (fm : Value) (i : Nat) : Law l yN 2 1 3 40 yB 2 (some .char) site (P x t V n f z fm i) (E f i) [] 0 0 := by
  refine Law.of_walk (plainFor_of_name (by decide +kernel)) (by decide +kernel) (by decide +kernel) (by decide) (fun _ _ h => by rw [h.1]; rfl) (fun _ U U' hal hh h => ⟨h.1, h.2.1.mv hal hh, h.2.2.1, h.2.2.2.1.there hal hh, h.2.2.2.2.1, h.2.2.2.2.2.1.there hal hh, h.2.2.2.2.2.2⟩) (fun r U U' V V' h1 hal h2 h => XT.PureE.mv r U U' V V' h1 hal h2 h) ?_
  intro p e s m args below meth c s₁ X0 hexec hbytes hml hret hlk hnm hown hh0 W hP
  obtain ⟨rfl, hx, hi, s1, hz, s3, rf⟩ := hP
  have v31 := hx.2.2.2.1.2.2.2
  have hr := hx.2.2.2.2.2 i hi
  have hx0 := hx.mv X0.warmed.alike hh0
  have c1 : Steps p.tables e below (s₁.setTop (entryFrame m #[.ref x, .int (Int32.ofNat i)] 2)) (s₁.setTop (mkF m 1 #[.val (.ref x), .val (.int (Int32.ofNat i))] [.ref x])) := Steps.trans (entry rfl) (by
    show Steps p.tables e below (s₁.setTop (mkF m 0 #[.val (.ref x), .val (.int (Int32.ofNat i))] [])) _
    refine XS.aloadN X0.here hexec rfl (hb hbytes d0) rfl rfl ?_
    exact Steps.refl _)
  obtain ⟨v2, T2, X2, E2, g2⟩ := X0.callV hexec (IsL.law l x 0 z) hown (wks W (virtW "java/lang/String" 492 "java/lang/String" IsL.yN IsL.yN)) rfl (by decide) (wk W IsL.tab) (W := 0) (Nat.le_of_ble_eq_true rfl) (Nat.le_of_ble_eq_true rfl) (Nat.le_refl _) (Nat.le_refl _) (hx0.1.fc X0.warmed.alike) hx0.1.is (g := (mkF m 1 #[.val (.ref x), .val (.int (Int32.ofNat i))] [.ref x])) rfl (by rw [hml]; rfl) c1 (argsL := []) (rest := []) rfl rfl (by show 2 * 0 + 0 ≤ _; decide) (hb hbytes d1) (⟨rfl, hx0.2.2.1, hx.2.2.2.2.1.cd, s1.there X0.warmed.alike hh0, hz⟩)
  obtain ⟨rfl, q2⟩ := E2
  have hh2 := q2.trans hh0
  have hx2 := hx.mv X2.warmed.alike hh2
  obtain ⟨-, k1, k2⟩ | ⟨k0, -⟩ := hx.2.2.2.2.1
  · have c3 : Steps p.tables e below (s₁.setTop (entryFrame m #[.ref x, .int (Int32.ofNat i)] 2)) (T2.setTop (mkF m 8 #[.val (.ref x), .val (.int (Int32.ofNat i))] [.ref x])) := Steps.trans g2 (by
      refine XS.ifNo X2.here hexec rfl (hb hbytes d4) rfl (i0_eq_f (by decide)) ?_
      refine XS.aloadN X2.here hexec rfl (hb hbytes d7) rfl rfl ?_
      exact Steps.refl _)
    obtain ⟨T4, X4, q4, st4⟩ := X2.hget hexec hown (wk W (.fieldLink "java/lang/String" 9 "java/lang/String" "value" "[B")) hx2.2.1 (g := (mkF m 8 #[.val (.ref x), .val (.int (Int32.ofNat i))] [.ref x])) rfl (rest := []) rfl (hb hbytes d8)
    have hh4 := q4.trans hh2
    have c5 : Steps p.tables e below (s₁.setTop (entryFrame m #[.ref x, .int (Int32.ofNat i)] 2)) (T4.setTop (mkF m 12 #[.val (.ref x), .val (.int (Int32.ofNat i))] [.int (Int32.ofNat i), .ref t])) := (c3.trans (st4 _ (Steps.refl _))).trans (by
      refine XS.iloadN X4.here hexec rfl (hb hbytes d11) rfl ?_
      exact Steps.refl _)
    obtain ⟨v6, T6, X6, E6, g6⟩ := X4.callS hexec (LChA.law l t V i (lo8 (f i)) fm) hown (wks W (staticW "java/lang/String" 495 LChA.yN)) (wk W LChA.tab) (W := 0) (Nat.le_of_ble_eq_true rfl) (Nat.le_of_ble_eq_true rfl) (Nat.le_refl _) (Nat.le_refl _) (g := (mkF m 12 #[.val (.ref x), .val (.int (Int32.ofNat i))] [.int (Int32.ofNat i), .ref t])) rfl (by rw [hml]; rfl) c5 (argsL := [.ref t, .int (Int32.ofNat i)]) (rest := []) rfl rfl (by show 2 * 0 + 0 ≤ _; decide) (hb hbytes d12) (⟨rfl, hx.2.2.2.1.mv X4.warmed.alike hh4, (k2 i hi).1, s3.there X4.warmed.alike hh4, rf⟩)
    obtain ⟨rfl, q6⟩ := E6
    rw [chr8_lo8 hr.1 (k2 i hi).2] at g6
    exact ⟨T6, some (.int (f i)), _, _, _, X6, rfl, rfl, rfl, (fun h => by cases h), ⟨rfl, q6.trans hh4⟩, fun fs hl => Steps.trans g6 (X6.ireturnOut hexec hret (narrow_ch hr.1 hr.2) (Or.inr (Or.inr (Or.inr (Or.inl rfl)))) (hb hbytes d15) hl)⟩
  · exact absurd k0 (by decide)
theorem pays {l : Launch} {R : Room} {p : Program} {e : Env} {below : List Frame} {s : State} {sargs : Array Value} {len W : Nat} (x t : Addr) (V : Cell) (n : Nat) (f : Nat → Int32) (z : Int32) (fm : Value) (i : Nat) (htab : tab.before sargs s = true) (hfr : 4 ≤ R.frames) (hlo : W + 53 ≤ R.locals) :
    Back l R p e below s sargs yN len W (fun A₁ a₁ => A₁.cells + 0 ≤ R.cells ∧ A₁.slots + 0 ≤ R.slots ∧ P x t V n f z fm i a₁ A₁.U) (fun A₁ _ v₁ B₁ => E f i v₁ A₁.U B₁.U ∧ B₁.locs = A₁.locs ++ [] ∧ B₁.cells = A₁.cells + 0 ∧ B₁.slots = A₁.slots + 0) :=
  (law l x t V n f z fm i).pays htab hfr (by omega)
end ChN
end StrChars
namespace StrChars.Road
open Jvm Sem ClassFile Op Lib Jvm.Stand Jvm.Free Jvm.Free.XT
open Jvm.Lib.Cold (StaticIs)
/-- the words of String.charAt(int), the Latin-1 road alone -/
abbrev wordsChN : List Jvm.Cond := [.code ChN.yN ChN.yB 2 (some .char), .initialized ST, .fieldLink ST 9 ST "value" "[B", .fieldLink ST 38 ST "COMPACT_STRINGS" "Z", .fieldLink ST 15 ST "coder" "B", .code IsL.yN IsL.yB 1 (some .boolean), .methodLink ST 492 IsL.yN, .declares IsL.yN, .selects ST IsL.yN IsL.yN, .instanceMethod IsL.yN,
  .methodLink ST 495 LChA.yN, .static LChA.yN, .code LChA.yN LChA.yB 2 (some .char), .initialized "java/lang/StringLatin1", .methodLink "java/lang/StringLatin1" 9 JO.Str_checkIndex.yN, .static JO.Str_checkIndex.yN, .code JO.Str_checkIndex.yN JO.Str_checkIndex.yB 2 none,
  .fieldLink ST 1053 "jdk/internal/util/Preconditions" "SIOOBE_FORMATTER" "Ljava/util/function/BiFunction;", .methodLink ST 1059 JC.PreCheck.yN, .static JC.PreCheck.yN, .code JC.PreCheck.yN JC.PreCheck.yB 3 (some .int), .initialized "jdk/internal/util/Preconditions"]
theorem tabChN_of {a : Array Value} {s : State} (h : ∀ w ∈ wordsChN, w.before a s = true) : ChN.tab.before a s = true := by
  have hp : JC.PreCheck.tab.before a s = true := unparts (wk h (.code JC.PreCheck.yN JC.PreCheck.yB 3 (some .int))) (wks h (.initialized JC.PreCheck.yN.cls :: JC.PreCheck.site))
  have qk := consq hp h
  have hk : JO.Str_checkIndex.tab.before a s = true := unparts (wk qk (.code JO.Str_checkIndex.yN JO.Str_checkIndex.yB 2 none)) (wks qk (.initialized JO.Str_checkIndex.yN.cls :: JO.Str_checkIndex.site))
  have ql := consq hk h
  have hl : LChA.tab.before a s = true := unparts (wk ql (.code LChA.yN LChA.yB 2 (some .char))) (wks ql (.initialized LChA.yN.cls :: LChA.site))
  have hi : IsL.tab.before a s = true := unparts (wk h (.code IsL.yN IsL.yB 1 (some .boolean))) (wks h (.initialized IsL.yN.cls :: IsL.site))
  have q := consq hi (consq hl h)
  exact unparts (wk q (.code ChN.yN ChN.yB 2 (some .char))) (wks q (.initialized ChN.yN.cls :: ChN.site))
theorem movedChN {Z s : State} {a0 args : Array Value} (hZ : Z.Warmed39 s.vm) (hw : ∀ d ∈ wordsChN, d.before a0 Z = true) : ∀ d ∈ wordsChN, d.before args s = true := fun d hd => by
  have t : ∀ d ∈ wordsChN, (d.onTables && d.keepsFace) = true := by decide +kernel
  exact RoadKit.mv hZ (hw d hd) (t d hd)
/-- **charAt(i) OF A LATIN-1 STRING**, i < n: the char -/
theorem chN {p : Program} {l : Launch} {e : Env} {R : Room} {s : State} {args : Array Value} {below : List Frame} {len W : Nat} {Z : State} {a0 : Array Value} {h : Heap} (hZ : Z.Warmed39 s.vm) (hw : ∀ d ∈ wordsChN, d.before a0 Z = true) {kI : Nat} (wi : (Jvm.Cond.instantiable ST kI).before a0 Z = true)
    {x t : Addr} {kb : ClassId} {cs : List Int32} {N2 z : Int32} {vs : List Value} {fm : Value} {i : Nat} {j : Int32} (E : RoadKit.Exa Z h x ST) (V : RoadKit.Fld Z h x ST "value" "[B" (.ref t)) (C : RoadKit.Fld Z h x ST "coder" "B" (.int 0)) (K : RoadKit.Arv Z h t kb .byte N2 vs (.int 0)) (hc : CodA cs 0 N2 vs) (hb : ∀ c ∈ cs, ¬ c < 0 ∧ ¬ (65535 : Int32) < c)
    (S : RoadKit.Sta Z h ST "COMPACT_STRINGS" "Z" (.int z)) (hz : ¬ z = 0) (F : RoadKit.Sta Z h "jdk/internal/util/Preconditions" "SIOOBE_FORMATTER" "Ljava/util/function/BiFunction;" fm) (rf : fm.isRef = true) (l2 : cs.length ≤ 4000) (hi : i < cs.length) (hj : j = Int32.ofNat i) (hfr : 4 ≤ R.frames) (hlo : W + 53 ≤ R.locals) :
    Back l R p e below s args (⟨"java/lang/String", "charAt", "(I)C"⟩ : MethodName) len W (fun P a => a = #[.ref x, .int j] ∧ P.U.heap = h ∧ P.cells + 0 ≤ R.cells ∧ P.slots + 0 ≤ R.slots)
      (fun P _ v B => ∃ L, (v = some (.int (cs.getD i 0)) ∧ L = [] ∧ B.U.heap = h) ∧ B.locs = P.locs ++ L ∧ B.cells = P.cells + 0 ∧ B.slots = P.slots + 0) := by
  subst hj
  intro m meth c P g ig mk a X hg hsize hdg hW hn hp'
  obtain ⟨rfl, rfl, r1, r2⟩ := hp'
  have al : Z.vm.Alike P.U.vm := hZ.alike.trans X.warmed.alike
  obtain ⟨A, hx⟩ := txt_of wi al E V C K hc hb l2
  obtain ⟨v, B, X', ⟨⟨hv, hh⟩, hl, hk, hs⟩, st⟩ := ChN.pays x t A cs.length (fun j => cs.getD j 0) z fm i (tabChN_of (movedChN hZ hw)) hfr hlo m meth c P g ig mk _ X hg hsize hdg hW hn ⟨r1, r2, rfl, hx, hi, sta_is al S, hz, sta_is al F, rf⟩
  exact ⟨v, B, X', ⟨[], ⟨hv, rfl, hh⟩, hl, hk, hs⟩, st⟩
/-- what backV says of its String, as the contracts of this text ask it: cs's low bytes, coder 0 -/
theorem codOf {cs : List Int32} {n : Nat} (hn : cs.length = n) (hb : ∀ c ∈ cs, ¬ 255 < c) : CodA cs 0 (Int32.ofNat n) ((cs.map lo8).map Value.int) := Or.inl ⟨rfl, by rw [hn], by simp [List.map_map, Function.comp_def], hb⟩
end StrChars.Road
end Jvm.Pilot.@@N@@
namespace Jvm.Pilot.@@N@@
open Jvm Jvm.ClassFile Sem Op Lib Jvm.Free Jvm.Stand Jvm.LawKit Jvm.RoadKit Bundle Jvm.Pilot.@@N@@.Jvm.D
section OwnStr
variable {p : Program} {l : Launch} {e : Env} {R : Room} {s : State} {m : MethodId} {args : Array Value} {below : List Frame} {meth : Method} {c : Code} {Z : State} {EL : List (String × Nat)} {n0 : Nat} {own : String} {code : ByteArray} {ml : Nat} {bw : Bool} {vm : Vm} {T : State} {h h' : Heap} {locs : List Loc} {cells slots : Nat} {a0 : Array Value} {x t : Addr} {cs : List Int32} {len W : Nat} {ws : List Addr}
/-- the String at x, its bytes at t, spells cs -/
def Str (Z : State) (h : Heap) (x t : Addr) (cs : List Int32) : Prop := Exa Z h x "java/lang/String" ∧ (∃ (cd N : Int32) (vs : List Value) (kb : ClassId), Fld Z h x "java/lang/String" "value" "[B" (.ref t) ∧ Fld Z h x "java/lang/String" "coder" "B" (.int cd) ∧ Arv Z h t kb .byte N vs (.int 0) ∧ StrChars.Road.CodA cs cd N vs) ∧ (∀ c ∈ cs, ¬ c < 0 ∧ ¬ (65535 : Int32) < c) ∧ cs.length ≤ 4000
theorem Str.ext (E : Ext h h') (F : Str Z h x t cs) : Str Z h' x t cs := by
  obtain ⟨a1, ⟨cd, N, vs, kb, b1, b2, b3, b4⟩, r⟩ := F; exact ⟨a1.ext E, ⟨cd, N, vs, kb, b1.ext E, b2.ext E, b3.ext E, b4⟩, r⟩
theorem Str.keep (F : Str Z h x t cs) (K : Keep h h' ws) (q : x ∉ ws) (q' : t ∉ ws) : Str Z h' x t cs := by
  obtain ⟨a1, ⟨cd, N, vs, kb, b1, b2, b3, b4⟩, r⟩ := F; exact ⟨a1.keep K, ⟨cd, N, vs, kb, b1.keep K q, b2.keep K q, b3.keep K q', b4⟩, r⟩
theorem strLit {b : Addr} {kb : ClassId} {z : Int32} {vs : List Value} (E : Exa Z h x "java/lang/String") (C : Fld Z h x "java/lang/String" "coder" "B" (.int 0)) (V : Fld Z h x "java/lang/String" "value" "[B" (.ref b)) (K : Arv Z h b kb .byte z vs (.int 0)) (q : StrChars.Road.CodA cs 0 z vs) (r : ∀ c ∈ cs, ¬ c < 0 ∧ ¬ (65535 : Int32) < c) (r2 : cs.length ≤ 4000) : Str Z h x b cs := ⟨E, ⟨0, z, vs, kb, V, C, K, q⟩, r, r2⟩
theorem Str.open (F : Str Z h x t cs) (lat : ∀ c ∈ cs, ¬ (255 : Int32) < c) : ∃ kb, Fld Z h x "java/lang/String" "value" "[B" (.ref t) ∧ Fld Z h x "java/lang/String" "coder" "B" (.int 0) ∧ Arv Z h t kb .byte (Int32.ofNat cs.length) (cs.map fun c => Value.int (StrChars.lo8 c)) (.int 0) := by
  obtain ⟨a1, ⟨cd, N, vs, kb, b1, b2, b3, b4⟩, r1, r2⟩ := F
  rcases b4 with ⟨rfl, rfl, rfl, -⟩ | ⟨-, -, -, c, hc, q⟩
  · exact ⟨kb, b1, b2, b3⟩
  · exact absurd q (lat c hc)
theorem Str.exa (F : Str Z h x t cs) : Exa Z h x "java/lang/String" := F.1
theorem Str.lt (F : Str Z h x t cs) : x < h.size := F.1.lt
theorem Str.lt' (F : Str Z h x t cs) : t < h.size := by obtain ⟨_, ⟨_, _, _, _, -, -, b3, -⟩, -⟩ := F; exact b3.lt
theorem up8 {c : Int32} (q : ¬ (255 : Int32) < c) : ¬ (65535 : Int32) < c := fun r => q (by rw [Int32.lt_iff_toInt_lt] at r ⊢; have e1 : (65535 : Int32).toInt = 65535 := rfl; have e2 : (255 : Int32).toInt = 255 := rfl; omega)
theorem payLen (A : WS p l e R s m args below meth c Z EL n0 own code ml bw vm T h locs cells slots) (hw : ∀ d ∈ tables_1, d.before a0 Z = true) {kI : Nat} (wi : (Jvm.Cond.instantiable "java/lang/String" kI).before a0 Z = true) (F : Str Z h x t cs) {zc : Int32} (O : Sta Z Z.heap "java/lang/String" "COMPACT_STRINGS" "Z" (.int zc)) (hz : ¬ zc = 0) (hfr : 2 ≤ R.frames) (hlo : W + 25 ≤ R.locals) : BkN l R p e below (s.setVm vm) args (⟨"java/lang/String", "length", "()I"⟩ : MethodName) len W #[.ref x] h n0 [] (fun v h' => v = some (.int (Int32.ofNat cs.length)) ∧ h' = h) 0 0 := by
  obtain ⟨a1, ⟨cd, N, vs, kb, b1, b2, b3, b4⟩, r1, r2⟩ := F
  exact Back.mono (StrChars.Road.lenW A.hZ (fun d hd => hw d ((by decide +kernel : ∀ d ∈ StrChars.Road.wordsLen, d ∈ tables_1) d hd)) wi a1 b1 b2 b3 b4 r1 (O.ext A.old.2) hz r2 hfr hlo) (fun _ _ q => q) (fun B a v B' hp hq => by obtain ⟨L, ⟨q1, rfl, q3⟩, r⟩ := hq; exact ⟨[], ⟨Fr.nil n0, by rw [q3]; exact Keep.refl _ _, q1, q3⟩, r⟩)
theorem payCh (A : WS p l e R s m args below meth c Z EL n0 own code ml bw vm T h locs cells slots) (hw : ∀ d ∈ tables_1, d.before a0 Z = true) {kI : Nat} (wi : (Jvm.Cond.instantiable "java/lang/String" kI).before a0 Z = true) (F : Str Z h x t cs) (lat : ∀ c ∈ cs, ¬ (255 : Int32) < c) {zc : Int32} (O : Sta Z Z.heap "java/lang/String" "COMPACT_STRINGS" "Z" (.int zc)) (hz : ¬ zc = 0) {fm : Value} (O4 : Sta Z Z.heap "jdk/internal/util/Preconditions" "SIOOBE_FORMATTER" "Ljava/util/function/BiFunction;" fm) (rf : fm.isRef = true) (i : Nat) (hi : i < cs.length) {j : Int32} (hj : j = Int32.ofNat i) (hfr : 4 ≤ R.frames) (hlo : W + 53 ≤ R.locals) : BkN l R p e below (s.setVm vm) args (⟨"java/lang/String", "charAt", "(I)C"⟩ : MethodName) len W #[.ref x, .int j] h n0 [] (fun v h' => v = some (.int (cs.getD i 0)) ∧ h' = h) 0 0 := by
  obtain ⟨a1, ⟨cd, N, vs, kb, b1, b2, b3, b4⟩, r1, r2⟩ := F
  obtain rfl : cd = 0 := by
    rcases b4 with ⟨q, -⟩ | ⟨-, -, -, c, hc, q⟩
    · exact q
    · exact absurd q (lat c hc)
  exact Back.mono (StrChars.Road.chN A.hZ (fun d hd => hw d ((by decide +kernel : ∀ d ∈ StrChars.Road.wordsChN, d ∈ tables_1) d hd)) wi a1 b1 b2 b3 b4 r1 (O.ext A.old.2) hz (O4.ext A.old.2) rf r2 hi hj hfr hlo) (fun _ _ q => q) (fun B a v B' hp hq => by obtain ⟨L, ⟨q1, rfl, q3⟩, r⟩ := hq; exact ⟨[], ⟨Fr.nil n0, by rw [q3]; exact Keep.refl _ _, q1, q3⟩, r⟩)
theorem payNew (A : WS p l e R s m args below meth c Z EL n0 own code ml bw vm T h locs cells slots) (hw : ∀ d ∈ tables_1, d.before a0 Z = true) {kI : Nat} (wi : (Jvm.Cond.instantiable "java/lang/String" kI).before a0 Z = true) {b : Addr} {kC : ClassId} {d v0 c0 : Value} {N : Int32} (n : Nat) (gx : n0 ≤ x) (E : Exa Z h x "java/lang/String") (V : Fld Z h x "java/lang/String" "value" "[B" v0) (C : Fld Z h x "java/lang/String" "coder" "B" c0) (K : Arv Z h b kC .char N (cs.map Value.int) d) {zc : Int32} (O : Sta Z Z.heap "java/lang/String" "COMPACT_STRINGS" "Z" (.int zc)) (hz : ¬ zc = 0) (hn : cs.length = n) (hN : N = Int32.ofNat n) (l0 : 0 < n) (l2 : n ≤ 4000) (hp : ∀ c ∈ cs, ¬ c < 0 ∧ ¬ (255 : Int32) < c) (hfr : 4 ≤ R.frames) (hlo : W + 65 ≤ R.locals) :
    BkN l R p e below (s.setVm vm) args (⟨"java/lang/String", "<init>", "([C)V"⟩ : MethodName) len W #[.ref x, .ref b] h n0 [x] (fun v h' => v = none ∧ ∃ t : Addr, n0 ≤ t ∧ h.size ≤ t ∧ ¬ t = x ∧ Str Z h' x t cs) 1 n := by
  refine Back.mono (StrChars.Road.backV A.hZ (fun d hd => hw d ((by decide +kernel : ∀ d ∈ StrChars.Road.words, d ∈ tables_1) d hd)) wi gx A.sz E V C K (O.ext A.old.2) hz hn hN l0 l2 hp rfl hfr hlo) (fun _ _ q => q) (fun B a v B' hp' hq => ?_)
  obtain ⟨L, ⟨rfl, q2, q3, q4, q5, t, kb, q6, q7, q8, q9, q10⟩, r⟩ := hq
  exact ⟨L, ⟨q2, q3, rfl, t, q6, q7, q8, q4, ⟨0, N, _, kb, q9, q5, q10, by rw [hN]; exact StrChars.Road.codOf hn fun c hc => (hp c hc).2⟩, fun c hc => ⟨(hp c hc).1, up8 (hp c hc).2⟩, by omega⟩, r⟩
end OwnStr
end Jvm.Pilot.@@N@@
namespace Jvm.Pilot.@@N@@
open Jvm Jvm.ClassFile Sem Op Lib Jvm.Free Jvm.Stand Jvm.LawKit Jvm.RoadKit Bundle Jvm.Pilot.@@N@@.Jvm.D
theorem ln {P : Int32 → Prop} : ∀ c ∈ ([] : List Int32), P c := fun _ q => nomatch q
theorem lc {P : Int32 → Prop} {a : Int32} {L : List Int32} (q : P a) (r : ∀ c ∈ L, P c) : ∀ c ∈ a :: L, P c := fun c z => (List.mem_cons.mp z).elim (fun u => u ▸ q) (r c)
theorem lat2 {L : List Int32} (q : ∀ c ∈ L, ¬ c < 0 ∧ ¬ (255 : Int32) < c) : ∀ c ∈ L, ¬ (255 : Int32) < c := fun c hc => (q c hc).2
theorem chr_id {z : Int32} (q : 0 ≤ z.toInt ∧ z.toInt ≤ 65535) : z.toUInt32.toUInt16.toUInt32.toInt32 = z := by
  have a := c_i2c z; exact Int32.toInt_inj.mp (by omega)
theorem nar_id {z : Int32} (q : 0 ≤ z.toInt ∧ z.toInt ≤ 65535) : nar .char z = z := chr_id q
theorem chr_rng (z : Int32) : 0 ≤ (z.toUInt32.toUInt16.toUInt32.toInt32).toInt ∧ (z.toUInt32.toUInt16.toUInt32.toInt32).toInt ≤ 65535 := by
  have a := c_i2c z; omega
theorem lat_of {z : Int32} (q : 0 ≤ z.toInt ∧ z.toInt ≤ 255) : ¬ z < 0 ∧ ¬ (255 : Int32) < z := by
  rw [Int32.lt_iff_toInt_lt, Int32.lt_iff_toInt_lt]; have e1 : (255 : Int32).toInt = 255 := rfl; have e2 : (0 : Int32).toInt = 0 := rfl; omega
theorem of_lat {z : Int32} (q : ¬ z < 0 ∧ ¬ (255 : Int32) < z) : 0 ≤ z.toInt ∧ z.toInt ≤ 255 := by
  rw [Int32.lt_iff_toInt_lt, Int32.lt_iff_toInt_lt] at q; have e1 : (255 : Int32).toInt = 255 := rfl; have e2 : (0 : Int32).toInt = 0 := rfl; omega
theorem lt_i {x y : Int32} : x < y ↔ x.toInt < y.toInt := Int32.lt_iff_toInt_lt
theorem and255 (x : Int32) : 0 ≤ (x &&& 255).toInt ∧ (x &&& 255).toInt ≤ 255 := c_and x 255 (by decide)
abbrev ELs : List (String × Nat) := [("com/example/mapwright/mapwright/config/MapperReader", 250), ("java/lang/String", 7)]
theorem strA {Z : State} {a0 : Array Value} (hw : ∀ d ∈ tables_1, d.before a0 Z = true) : ∀ a ∈ Bundle.stringAtoms, a.before a0 Z = true := fun d hd => hw d ((by decide +kernel : ∀ d ∈ Bundle.stringAtoms, d ∈ tables_1) d hd)
theorem ofn {n : Nat} (h : n < 2147483648) : (Int32.ofNat n).toInt = n := Int32.toInt_ofNat_small h
theorem ofn_clamp {n : Nat} (h : n < 2147483648) : (Int32.ofNat n).toNatClampNeg = n := by simp only [Int32.toNatClampNeg, ofn h]; omega
theorem ofn_in {i n : Nat} (h : i < n) (hn : n < 2147483648) : ¬ Int32.ofNat i < 0 ∧ Int32.ofNat i < Int32.ofNat n := by
  rw [lt_i, lt_i, ofn (by omega), ofn hn]; have e : (0 : Int32).toInt = 0 := rfl; omega
theorem ofn_lt {i n : Nat} (hi : i < 2147483648) (hn : n < 2147483648) : Int32.ofNat i < Int32.ofNat n ↔ i < n := by rw [lt_i, ofn hi, ofn hn]; omega
theorem ofn_add {i n : Nat} (h : i + n < 2147483648) : Int32.ofNat i + Int32.ofNat n = Int32.ofNat (i + n) := by
  apply Int32.toInt_inj.mp; have a := c_iadd (Int32.ofNat i) (Int32.ofNat n); have b := rng32 (Int32.ofNat i + Int32.ofNat n); rw [ofn (by omega), ofn (by omega)] at a; rw [ofn h]; omega
theorem ofn_sub {i n : Nat} (h : n ≤ i) (hi : i < 2147483648) : Int32.ofNat i - Int32.ofNat n = Int32.ofNat (i - n) := by
  apply Int32.toInt_inj.mp; have a := c_isub (Int32.ofNat i) (Int32.ofNat n); have b := rng32 (Int32.ofNat i - Int32.ofNat n); rw [ofn (by omega), ofn (by omega)] at a; rw [ofn (by omega)]; omega
theorem ofn_one {i : Nat} (h : i + 1 < 2147483648) : Int32.ofNat i + 1 = Int32.ofNat (i + 1) := ofn_add (n := 1) h
theorem ofn_shl {i : Nat} (h : 2 * i < 2147483648) : Int32.ofNat i <<< ((1 : Int32) &&& 31) = Int32.ofNat (2 * i) := by
  apply Int32.toInt_inj.mp; have a := c_ishl (Int32.ofNat i) 1 1 (by decide); have b := rng32 (Int32.ofNat i <<< ((1 : Int32) &&& 31)); rw [ofn (by omega)] at a; rw [ofn h]; omega
theorem ofn_nn {n : Nat} (h : n < 2147483648) : ¬ Int32.ofNat n < 0 := by rw [lt_i, ofn h]; have e : (0 : Int32).toInt = 0 := rfl; omega
theorem lo88 (c : Int32) : (StrChars.lo8 c).toInt8.toInt32 = StrChars.lo8 c := by
  apply Int32.toInt_inj.mp; have a := c_i2b c; have b := c_i2b (StrChars.lo8 c); simp only [StrChars.lo8] at b ⊢; omega
theorem cod1 {n : Nat} (h0 : 0 < n) (h : 2 * n < 2147483648) : ((Int32.ofNat n - Int32.ofNat (2 * n)).toUInt32 >>> ((31 : Int32) &&& 31).toUInt32).toInt32 = 1 := by
  apply Int32.toInt_inj.mp; rw [c_iushr _ 31 31 (by decide) (by decide)]
  have a := c_isub (Int32.ofNat n) (Int32.ofNat (2 * n)); have b := rng32 (Int32.ofNat n - Int32.ofNat (2 * n)); rw [ofn (by omega), ofn h] at a
  have e : (1 : Int32).toInt = 1 := rfl; rw [e]; omega
theorem set2 {A R : List Value} {x y a b : Value} {i : Nat} (h : A.length = i) : ((A ++ x :: y :: R).set i a).set (i + 1) b = A ++ a :: b :: R := by
  subst h; rw [List.set_append_right _ _ (Nat.le_refl _), Nat.sub_self, List.set_cons_zero, List.set_append_right _ _ (Nat.le_succ _), show A.length.succ - A.length = 1 from by omega]; rfl
theorem wlen : ∀ cs : List Int32, (StrChars.Road.wideBytes cs).length = 2 * cs.length
  | [] => rfl
  | c :: cs => by rw [StrChars.Road.wideBytes, List.length_cons, List.length_cons, List.length_cons, wlen cs]; omega
theorem wapp : ∀ (cs : List Int32) (c : Int32), StrChars.Road.wideBytes (cs ++ [c]) = StrChars.Road.wideBytes cs ++ [.int (StrChars.lo8 c), .int (StrChars.hi8 c)]
  | [], c => rfl
  | d :: cs, c => by rw [List.cons_append, StrChars.Road.wideBytes, wapp cs c]; rfl
theorem getDm {cs : List Int32} {i : Nat} (d : Value) (h : i < cs.length) : (cs.map Value.int).getD i d = .int (cs.getD i 0) := by simp [List.getD_eq_getElem?_getD, h]
theorem take1 {cs : List Int32} {i : Nat} (h : i < cs.length) : cs.take (i + 1) = cs.take i ++ [cs.getD i 0] := by rw [List.take_succ_eq_append_getElem h]; simp [List.getD_eq_getElem?_getD, h]
theorem rep2 (k : Nat) : List.replicate (2 * (k + 1)) (Value.int 0) = .int 0 :: .int 0 :: List.replicate (2 * k) (Value.int 0) := by rw [show 2 * (k + 1) = 2 * k + 1 + 1 from by omega, List.replicate_succ, List.replicate_succ]

theorem pn0 : plainName "java/lang/String" = true := by first | (simp [plainName, overriddenIn]; done) | decide +kernel
theorem d3_0 : decode jdk_42_method_149_code 0 = .ok (.aload_n 0, 1) := by decide +kernel
theorem d3_1 : decode jdk_42_method_149_code 1 = .ok (.invokespecial 1, 3) := by decide +kernel
theorem d3_4 : decode jdk_42_method_149_code 4 = .ok (.iload_n 3, 1) := by decide +kernel
theorem d3_5 : decode jdk_42_method_149_code 5 = .ok (.ifCond .ne 22, 3) := by decide +kernel
theorem d3_8 : decode jdk_42_method_149_code 8 = .ok (.aload_n 0, 1) := by decide +kernel
theorem d3_9 : decode jdk_42_method_149_code 9 = .ok (.ldc 7, 2) := by decide +kernel
theorem d3_11 : decode jdk_42_method_149_code 11 = .ok (.getfield 9, 3) := by decide +kernel
theorem d3_14 : decode jdk_42_method_149_code 14 = .ok (.putfield 9, 3) := by decide +kernel
theorem d3_17 : decode jdk_42_method_149_code 17 = .ok (.aload_n 0, 1) := by decide +kernel
theorem d3_18 : decode jdk_42_method_149_code 18 = .ok (.ldc 7, 2) := by decide +kernel
theorem d3_20 : decode jdk_42_method_149_code 20 = .ok (.getfield 15, 3) := by decide +kernel
theorem d3_23 : decode jdk_42_method_149_code 23 = .ok (.putfield 15, 3) := by decide +kernel
theorem d3_26 : decode jdk_42_method_149_code 26 = .ok (.return_, 1) := by decide +kernel
set_option maxRecDepth 65536 in
set_option maxHeartbeats 40000000 in
theorem m_new4E (l : Launch) (Z : State) (a0 : Array Value) (hw : ∀ d ∈ tables_1, d.before a0 Z = true) (x b : Addr) (h0 : Heap) (n0 : Nat) (ho : Old Z n0 h0) (hEL : EW Z a0 ELs) (E : Exa Z h0 x "java/lang/String") (V : Fld Z h0 x "java/lang/String" "value" "[B" .null) (C : Fld Z h0 x "java/lang/String" "coder" "B" (.int 0)) (gx : n0 ≤ x) :
    CW l (⟨"java/lang/String", "<init>", "([CIILjava/lang/Void;)V"⟩ : MethodName) jdk_42_method_149_code 6 none [] ({ frames := 1, cells := 2, slots := 4, locals := 12 } : Room) Z ELs [x] n0 h0 #[(.ref x), (.ref b), (.int (0 : Int32)), (.int (0 : Int32)), .null] [x] (fun v h => v = none ∧ ∃ t : Addr, Str Z h x t []) := by
  refine CW.walk (plainFor_of_name pn0) ho (L0 := #[.val (.ref x), .val (.ref b), .val (.int (0 : Int32)), .val (.int (0 : Int32)), .val .null, .unset]) (fun m => rfl) ?_
  intro pG e s m below meth cO T hlk hret hnm hSL A0
  have K0 : Keep h0 h0 [x] := Keep.refl _ _
  have sx := hSL x (List.mem_singleton.mpr rfl)
  refine f_aloadN A0 d3_0 (pc' := 1) rfl rfl rfl ?_
  refine f_initO A0 (W := 0) d3_1 (pc' := 4) rfl (wd hw 15 rfl) (wd hw 16 rfl) (wd hw 17 rfl) rfl (by decide) (Nat.le_of_eq rfl) (by decide) fun T1 A1 => ?_
  refine f_iloadN A1 d3_4 (pc' := 5) rfl rfl ?_
  refine f_ifN A1 d3_5 ((if0 _ _).trans (teq (by decide : (0 : Int32) = (0 : Int32))).2) (pc' := 8) rfl ?_
  refine f_aloadN A1 d3_8 (pc' := 9) rfl rfl rfl ?_
  refine f_ldcC A1 d3_9 (pc' := 11) rfl (by decide) (vs := []) (z := 0) ⟨by decide, by decide⟩ (by decide) (by decide) (wd hw 18 rfl) (strA hw) hEL (n := 0) (by decide) (by decide) (by decide) (by decide) fun a2 b2 kb2 vm2 T2 h2 A2 E2 C2 Li2 x2 fc2 fv2 av2 hs2 => ?_
  have G2 : Str Z h2 a2 b2 [] := strLit x2 fc2 fv2 av2 (Or.inl ⟨rfl, rfl, rfl, by decide⟩) (by decide) (by decide)
  have Q3 : Keep h0 h2 [x] := K0.ext E2
  refine f_getF A2 d3_11 (pc' := 14) rfl (host := "") (Or.inl (wd hw 24 rfl)) Via.refl fv2 fun T4 A4 => ?_
  have c6 := (V.ext E2)
  have c7 := (E.ext E2)
  have c8 := (CHr.safe C2 E.lt sx)
  refine f_putF A4 (.ref b2) d3_14 (pc' := 17) rfl (wd hw 24 rfl) Via.refl c6 c7 (Or.inr ⟨(wd hw 20 rfl), rfl, hnm⟩) (wd hw 5 rfl) (ty := (.array .byte)) (by decide) rfl rfl gx (fun _ => c8) fun T5 h5 A5 W5 K5 X5 F5 => ?_
  have c9 := (C.ext E2)
  have Q10 : Keep h0 h5 [x] := Q3.trans K5 (allS (Or.inl (List.mem_of_getElem? (i := 0) rfl)) all0)
  refine f_aloadN A5 d3_17 (pc' := 18) rfl rfl rfl ?_
  refine f_ldcA A5 d3_18 (pc' := 20) rfl (wd hw 18 rfl) Li2 ?_
  have c13 := (fc2.keep K5 (ninS (Ne.symm (hs2 _ c8).1) nin0))
  refine f_getF A5 d3_20 (pc' := 23) rfl (host := "") (Or.inl (wd hw 25 rfl)) Via.refl c13 fun T12 A12 => ?_
  have c15 := (Safe.keep K5 (sfS c8 sf0) (A4.ch rfl).1 c8)
  refine f_putF A12 (.int (0 : Int32)) d3_23 (pc' := 26) rfl (wd hw 25 rfl) Via.refl (c9.other W5 (Or.inr (slot_ne (Or.inr (wd hw 21 rfl)) (Or.inr (wd hw 20 rfl)) (by decide) (t := .byte) (t' := (.array .byte)) (by decide) (by decide)))) X5 (Or.inr ⟨(wd hw 21 rfl), rfl, hnm⟩) (wd hw 5 rfl) (ty := .byte) (by decide) rfl (by decide) gx (fun _ => c15) fun T14 h14 A14 W14 K14 X14 F14 => ?_
  have Q16 : Keep h0 h14 [x] := Q10.trans K14 (allS (Or.inl (List.mem_of_getElem? (i := 0) rfl)) all0)
  have c17 := ((av2.keep K5 (ninS (Ne.symm (hs2 _ c8).2) nin0)).keep K14 (ninS (Ne.symm (hs2 _ c8).2) nin0))
  have G : Str Z h14 x b2 [] := strLit X14 F14 (F5.other W14 (Or.inr (slot_ne (Or.inr (wd hw 20 rfl)) (Or.inr (wd hw 21 rfl)) (by decide) (t := (.array .byte)) (t' := .byte) (by decide) (by decide)))) c17 (Or.inl ⟨rfl, rfl, rfl, by decide⟩) (by decide) (by decide)
  exact f_retW A14 hEL hlk hret d3_26 (by decide) (by decide) Q16 ⟨rfl, b2, G⟩
theorem d2_0 : decode jdk_42_method_3_code 0 = .ok (.aload_n 0, 1) := by decide +kernel
theorem d2_1 : decode jdk_42_method_3_code 1 = .ok (.aload_n 1, 1) := by decide +kernel
theorem d2_2 : decode jdk_42_method_3_code 2 = .ok (.iconst 0, 1) := by decide +kernel
theorem d2_3 : decode jdk_42_method_3_code 3 = .ok (.aload_n 1, 1) := by decide +kernel
theorem d2_4 : decode jdk_42_method_3_code 4 = .ok (.arraylength, 1) := by decide +kernel
theorem d2_5 : decode jdk_42_method_3_code 5 = .ok (.aconst_null, 1) := by decide +kernel
theorem d2_6 : decode jdk_42_method_3_code 6 = .ok (.invokespecial 27, 3) := by decide +kernel
theorem pd0 : parseMethodDescriptor "([CIILjava/lang/Void;)V" = some ⟨[(.array .char), .int, .int, (.object "java/lang/Void")], none⟩ := by decide +kernel
theorem d2_9 : decode jdk_42_method_3_code 9 = .ok (.return_, 1) := by decide +kernel
set_option maxRecDepth 65536 in
set_option maxHeartbeats 40000000 in
theorem m_new1E (l : Launch) (Z : State) (a0 : Array Value) (hw : ∀ d ∈ tables_1, d.before a0 Z = true) (x b : Addr) (kA : ClassId) (vs : List Value) (h0 : Heap) (n0 : Nat) (ho : Old Z n0 h0) (hEL : EW Z a0 ELs) (E : Exa Z h0 x "java/lang/String") (V : Fld Z h0 x "java/lang/String" "value" "[B" .null) (C : Fld Z h0 x "java/lang/String" "coder" "B" (.int 0)) (gx : n0 ≤ x) (Kb : Arv Z h0 b kA .char 0 vs (.int 0)) :
    CW l (⟨"java/lang/String", "<init>", "([C)V"⟩ : MethodName) jdk_42_method_3_code 2 none [] ({ frames := 2, cells := 2, slots := 4, locals := 40 } : Room) Z ELs [x] n0 h0 #[(.ref x), (.ref b)] [x] (fun v h => v = none ∧ ∃ t : Addr, Str Z h x t []) := by
  refine CW.walk (plainFor_of_name pn0) ho (L0 := #[.val (.ref x), .val (.ref b)]) (fun m => rfl) ?_
  intro pG e s m below meth cO T hlk hret hnm hSL A0
  have K0 : Keep h0 h0 [x] := Keep.refl _ _
  have sx := hSL x (List.mem_singleton.mpr rfl)
  refine f_aloadN A0 d2_0 (pc' := 1) rfl rfl rfl ?_
  refine f_aloadN A0 d2_1 (pc' := 2) rfl rfl rfl ?_
  refine f_iconst A0 d2_2 (pc' := 3) rfl 0 rfl ?_
  refine f_aloadN A0 d2_3 (pc' := 4) rfl rfl rfl ?_
  refine f_arraylength A0 d2_4 (pc' := 5) rfl Kb ?_
  refine f_aconst_null A0 d2_5 (pc' := 6) rfl ?_
  refine f_callIW A0 (a := x) d2_6 (pc' := 9) rfl rfl (wd hw 11 rfl) (wd hw 12 rfl) (wd hw 14 rfl) (by decide) pd0 [(.ref b), (.int (0 : Int32)), (.int (0 : Int32)), .null] [] rfl rfl rfl 0 (Nat.le_of_eq rfl) (CW.pay (W := 0) A0 hEL (m_new4E l Z a0 hw x b h0 n0 A0.old hEL E V C gx) (wd hw 14 rfl) (wd hw 6 rfl) (by decide) (by decide) (allS ⟨E.lt, sx⟩ all0)) (kc := 2) (ks := 4) (by decide) (by decide) (allS gx all0) fun v18 vm18 T18 h18 L18 A18 K18 C18 q18 => ?_
  have Q19 : Keep h0 h18 [x] := K0.trans K18 (allS (Or.inl (List.mem_of_getElem? (i := 0) rfl)) all0)
  obtain ⟨rfl, t18, G18⟩ := q18
  show Wp pG e below _ T18 (mkF m 9 _ [])
  exact f_retW A18 hEL hlk hret d2_9 (by decide) (by decide) Q19 ⟨rfl, t18, G18⟩
theorem d10_0 : decode jdk_42_method_154_code 0 = .ok (.getstatic 38, 3) := by decide +kernel
theorem d10_3 : decode jdk_42_method_154_code 3 = .ok (.ifCond .eq 14, 3) := by decide +kernel
theorem d10_6 : decode jdk_42_method_154_code 6 = .ok (.aload_n 0, 1) := by decide +kernel
theorem d10_7 : decode jdk_42_method_154_code 7 = .ok (.getfield 15, 3) := by decide +kernel
theorem d10_10 : decode jdk_42_method_154_code 10 = .ok (.ifCond .ne 7, 3) := by decide +kernel
theorem d10_13 : decode jdk_42_method_154_code 13 = .ok (.iconst 1, 1) := by decide +kernel
theorem d10_14 : decode jdk_42_method_154_code 14 = .ok (.goto 4, 3) := by decide +kernel
theorem d10_18 : decode jdk_42_method_154_code 18 = .ok (.ireturn, 1) := by decide +kernel
set_option maxRecDepth 65536 in
set_option maxHeartbeats 40000000 in
theorem m_isLat (l : Launch) (Z : State) (a0 : Array Value) (hw : ∀ d ∈ tables_1, d.before a0 Z = true) (x : Addr) (zc : Int32) (O2 : Sta Z Z.heap "java/lang/String" "COMPACT_STRINGS" "Z" (.int zc)) (P5 : ¬ zc = 0) (h0 : Heap) (n0 : Nat) (ho : Old Z n0 h0) (C : Fld Z h0 x "java/lang/String" "coder" "B" (.int 0)) :
    CN l (⟨"java/lang/String", "isLatin1", "()Z"⟩ : MethodName) jdk_42_method_154_code 1 (some .boolean) [] ({ frames := 0, cells := 0, slots := 0, locals := 0 } : Room) Z n0 h0 #[(.ref x)] [] (fun v h => v = some (.int 1) ∧ h = h0) := by
  refine CN.walk (plainFor_of_name pn0) ho (L0 := #[.val (.ref x)]) (fun m => rfl) ?_
  intro pG e s m below meth cO T hlk hret hnm A0
  have K0 : Keep h0 h0 [] := Keep.refl _ _
  refine f_getS A0 d10_0 (pc' := 3) rfl (host := "") (Or.inl (wd hw 55 rfl)) Via.refl O2 fun T20 A20 => ?_
  refine f_ifN A20 d10_3 ((if0 _ _).trans (feq P5).1) (pc' := 6) rfl ?_
  refine f_aloadN A20 d10_6 (pc' := 7) rfl rfl rfl ?_
  refine f_getF A20 d10_7 (pc' := 10) rfl (host := "") (Or.inl (wd hw 25 rfl)) Via.refl C fun T21 A21 => ?_
  refine f_ifN A21 d10_10 ((if0 _ _).trans (teq (by decide : (0 : Int32) = (0 : Int32))).2) (pc' := 13) rfl ?_
  refine f_iconst A21 d10_13 (pc' := 14) rfl 1 rfl ?_
  refine f_goto A21 d10_14 (pc' := 18) (by decide) (by decide) ?_
  exact f_retBN A21 hlk hret d10_18 (by decide) (1 : Int32) (by decide) (by decide) (by decide) K0 ⟨rfl, rfl⟩
theorem la {P : Int32 → Prop} {A B : List Int32} (q : ∀ c ∈ A, P c) (r : ∀ c ∈ B, P c) : ∀ c ∈ A ++ B, P c := fun c z => (List.mem_append.mp z).elim (q c) (r c)
def pad (cap : Nat) (cs : List Int32) : List Value := (cs.map fun c => Value.int (StrChars.lo8 c)) ++ List.replicate (cap - cs.length) (.int 0)
theorem pad_len {cap : Nat} {cs : List Int32} (h : cs.length ≤ cap) : (pad cap cs).length = cap := by simp [pad]; omega
theorem pad_full (cs : List Int32) : pad cs.length cs = cs.map fun c => Value.int (StrChars.lo8 c) := by simp [pad]
theorem pad_nil (cap : Nat) : pad cap [] = List.replicate cap (.int 0) := by simp [pad]
theorem pad_cpy {cap : Nat} {cs ds : List Int32} (h : cs.length + ds.length ≤ cap) : (pad cap cs).take cs.length ++ (ds.map fun c => Value.int (StrChars.lo8 c)) ++ (pad cap cs).drop (cs.length + ds.length) = pad cap (cs ++ ds) := by
  have e1 : (pad cap cs).take cs.length = cs.map fun c => Value.int (StrChars.lo8 c) := by rw [pad]; exact List.take_left' (by simp)
  have e2 : (pad cap cs).drop (cs.length + ds.length) = List.replicate (cap - (cs ++ ds).length) (.int 0) := by
    rw [pad, ← List.drop_drop, List.drop_left' (by simp), List.drop_replicate, List.length_append]; congr 1; omega
  rw [e1, e2, pad, List.map_append]
theorem rng_get {vs : List Value} {d : Value} : (List.range vs.length).map (fun i => vs.getD (0 + i) d) = vs := by
  apply List.ext_getElem
  · simp
  · intro i h1 h2; simp [List.getD_eq_getElem?_getD, List.getElem?_eq_getElem h2]
theorem rng_pad {cap : Nat} {cs : List Int32} {d : Value} (h : cs.length ≤ cap) : (List.range cs.length).map (fun i => (pad cap cs).getD (0 + i) d) = cs.map fun c => Value.int (StrChars.lo8 c) := by
  apply List.ext_getElem
  · simp
  · intro i h1 h2
    have h3 : i < cs.length := by simpa using h1
    simp [pad, List.getD_eq_getElem?_getD, List.getElem?_append_left, h3]
theorem shl0 (x : Int32) : x <<< ((0 : Int32) &&& 31) = x := by
  apply Int32.toInt_inj.mp; have a := c_ishl x 0 0 (by decide); have b := rng32 (x <<< ((0 : Int32) &&& 31)); have c := rng32 x; omega
theorem ofn_le0 {a b : Nat} (h : a ≤ b) (hb : b < 2147483648) : ¬ (0 : Int32) < Int32.ofNat a - Int32.ofNat b := by
  have x := c_isub (Int32.ofNat a) (Int32.ofNat b); have y := rng32 (Int32.ofNat a - Int32.ofNat b); rw [ofn (by omega), ofn hb] at x; rw [lt_i]; have e : (0 : Int32).toInt = 0 := rfl; omega
def SBd (Z : State) (h : Heap) (b v : Addr) (kb : ClassId) (cap : Nat) (cs : List Int32) : Prop := Exa Z h b "java/lang/StringBuilder" ∧ Fld Z h b "java/lang/AbstractStringBuilder" "value" "[B" (.ref v) ∧ Fld Z h b "java/lang/AbstractStringBuilder" "coder" "B" (.int 0) ∧ Fld Z h b "java/lang/AbstractStringBuilder" "count" "I" (.int (Int32.ofNat cs.length)) ∧ Arv Z h v kb .byte (Int32.ofNat cap) (pad cap cs) (.int 0) ∧ Exa Z h v "[B"
theorem SBd.ext {Z : State} {h h' : Heap} {b v : Addr} {kb : ClassId} {cap : Nat} {cs : List Int32} (E : Ext h h') (F : SBd Z h b v kb cap cs) : SBd Z h' b v kb cap cs := ⟨F.1.ext E, F.2.1.ext E, F.2.2.1.ext E, F.2.2.2.1.ext E, F.2.2.2.2.1.ext E, F.2.2.2.2.2.ext E⟩
theorem SBd.keep {Z : State} {h h' : Heap} {b v : Addr} {kb : ClassId} {cap : Nat} {cs : List Int32} {ws : List Addr} (F : SBd Z h b v kb cap cs) (K : Keep h h' ws) (q : b ∉ ws) (q' : v ∉ ws) : SBd Z h' b v kb cap cs := ⟨F.1.keep K, F.2.1.keep K q, F.2.2.1.keep K q, F.2.2.2.1.keep K q, F.2.2.2.2.1.keep K q', F.2.2.2.2.2.keep K⟩
theorem Str.openL {Z : State} {h : Heap} {x t : Addr} {cs : List Int32} (F : Str Z h x t cs) (lat : ∀ c ∈ cs, ¬ (255 : Int32) < c) : ∃ kb, Fld Z h x "java/lang/String" "value" "[B" (.ref t) ∧ Fld Z h x "java/lang/String" "coder" "B" (.int 0) ∧ Arv Z h t kb .byte (Int32.ofNat cs.length) (cs.map fun c => Value.int (StrChars.lo8 c)) (.int 0) := F.open lat
theorem pn1 : plainName "java/lang/AbstractStringBuilder" = true := by first | (simp [plainName, overriddenIn]; done) | decide +kernel
theorem d13_0 : decode jdk_68_method_2_code 0 = .ok (.aload_n 0, 1) := by decide +kernel
theorem d13_1 : decode jdk_68_method_2_code 1 = .ok (.invokespecial 3, 3) := by decide +kernel
theorem d13_4 : decode jdk_68_method_2_code 4 = .ok (.getstatic 18, 3) := by decide +kernel
theorem d13_7 : decode jdk_68_method_2_code 7 = .ok (.ifCond .eq 18, 3) := by decide +kernel
theorem d13_10 : decode jdk_68_method_2_code 10 = .ok (.aload_n 0, 1) := by decide +kernel
theorem d13_11 : decode jdk_68_method_2_code 11 = .ok (.iload_n 1, 1) := by decide +kernel
theorem d13_12 : decode jdk_68_method_2_code 12 = .ok (.newarray .byte, 2) := by decide +kernel
theorem d13_14 : decode jdk_68_method_2_code 14 = .ok (.putfield 15, 3) := by decide +kernel
theorem d13_17 : decode jdk_68_method_2_code 17 = .ok (.aload_n 0, 1) := by decide +kernel
theorem d13_18 : decode jdk_68_method_2_code 18 = .ok (.iconst 0, 1) := by decide +kernel
theorem d13_19 : decode jdk_68_method_2_code 19 = .ok (.putfield 22, 3) := by decide +kernel
theorem d13_22 : decode jdk_68_method_2_code 22 = .ok (.goto 16, 3) := by decide +kernel
theorem d13_38 : decode jdk_68_method_2_code 38 = .ok (.return_, 1) := by decide +kernel
set_option maxRecDepth 65536 in
set_option maxHeartbeats 40000000 in
theorem m_asbI (l : Launch) (Z : State) (a0 : Array Value) (hw : ∀ d ∈ tables_1, d.before a0 Z = true) (b : Addr) (zc : Int32) (O2 : Sta Z Z.heap "java/lang/String" "COMPACT_STRINGS" "Z" (.int zc)) (P5 : ¬ zc = 0) (h0 : Heap) (n0 : Nat) (ho : Old Z n0 h0) (E : Exa Z h0 b "java/lang/StringBuilder") (Fv : Fld Z h0 b "java/lang/AbstractStringBuilder" "value" "[B" .null) (Fc : Fld Z h0 b "java/lang/AbstractStringBuilder" "coder" "B" (.int 0)) (Fn : Fld Z h0 b "java/lang/AbstractStringBuilder" "count" "I" (.int 0)) (gb : n0 ≤ b) :
    CN l (⟨"java/lang/AbstractStringBuilder", "<init>", "(I)V"⟩ : MethodName) jdk_68_method_2_code 2 none [] ({ frames := 1, cells := 1, slots := 16, locals := 12 } : Room) Z n0 h0 #[(.ref b), (.int (16 : Int32))] [b] (fun r h => r = none ∧ ∃ (v : Addr) (kb : ClassId), n0 ≤ v ∧ h0.size ≤ v ∧ SBd Z h b v kb 16 []) := by
  refine CN.walk (plainFor_of_name pn1) ho (L0 := #[.val (.ref b), .val (.int (16 : Int32))]) (fun m => rfl) ?_
  intro pG e s m below meth cO T hlk hret hnm A0
  have K0 : Keep h0 h0 [b] := Keep.refl _ _
  refine f_aloadN A0 d13_0 (pc' := 1) rfl rfl rfl ?_
  refine f_initO A0 (W := 0) d13_1 (pc' := 4) rfl (wd hw 77 rfl) (wd hw 16 rfl) (wd hw 17 rfl) rfl (by decide) (Nat.le_of_eq rfl) (by decide) fun T22 A22 => ?_
  refine f_getS A22 d13_4 (pc' := 7) rfl (host := "") (Or.inl (wd hw 78 rfl)) Via.refl O2 fun T23 A23 => ?_
  refine f_ifN A23 d13_7 ((if0 _ _).trans (feq P5).1) (pc' := 10) rfl ?_
  refine f_aloadN A23 d13_10 (pc' := 11) rfl rfl rfl ?_
  refine f_iloadN A23 d13_11 (pc' := 12) rfl rfl ?_
  refine f_newP A23 16 d13_12 (pc' := 14) rfl (wd hw 19 rfl) (by decide) (by decide) (by decide) (by decide) (by decide) (ad := "[B") (by decide) fun a24 T24 h24 k24 g24 A24 E24 F24 X24 => ?_
  have z24 : n0 ≤ a24 := Nat.le_trans A23.sz (Nat.le_of_eq g24.symm)
  have y24 : h0.size ≤ a24 := Nat.le_trans K0.1 (Nat.le_of_eq g24.symm)
  have Q25 : Keep h0 h24 [b] := K0.ext E24
  have V24 : Arv Z h24 a24 k24 .byte (16 : Int32) [(.int (0 : Int32)), (.int (0 : Int32)), (.int (0 : Int32)), (.int (0 : Int32)), (.int (0 : Int32)), (.int (0 : Int32)), (.int (0 : Int32)), (.int (0 : Int32)), (.int (0 : Int32)), (.int (0 : Int32)), (.int (0 : Int32)), (.int (0 : Int32)), (.int (0 : Int32)), (.int (0 : Int32)), (.int (0 : Int32)), (.int (0 : Int32))] (.int (0 : Int32)) := F24.pad (pad_rep [] (.int (0 : Int32)) 16)
  have c27 := (Fv.ext E24)
  have c28 := (E.ext E24)
  refine f_putF A24 (.ref a24) d13_14 (pc' := 17) rfl (wd hw 79 rfl) Via.refl c27 c28 (Or.inl (wd hw 80 rfl)) (wd hw 66 rfl) (ty := (.array .byte)) (by decide) rfl rfl gb (fun q => nomatch q) fun T26 h26 A26 W26 K26 X26 F26 => ?_
  have c29 := (Fc.ext E24)
  have c30 := (Fn.ext E24)
  have Q31 : Keep h0 h26 [b] := Q25.trans K26 (allS (Or.inl (List.mem_of_getElem? (i := 0) rfl)) all0)
  refine f_aloadN A26 d13_17 (pc' := 18) rfl rfl rfl ?_
  refine f_iconst A26 d13_18 (pc' := 19) rfl 0 rfl ?_
  refine f_putF A26 (.int (0 : Int32)) d13_19 (pc' := 22) rfl (wd hw 81 rfl) Via.refl (c29.other W26 (Or.inr (slot_ne (Or.inl (wd hw 82 rfl)) (Or.inl (wd hw 80 rfl)) (by decide) (t := .byte) (t' := (.array .byte)) (by decide) (by decide)))) X26 (Or.inl (wd hw 82 rfl)) (wd hw 66 rfl) (ty := .byte) (by decide) rfl (by decide) gb (fun q => nomatch q) fun T32 h32 A32 W32 K32 X32 F32 => ?_
  have Q33 : Keep h0 h32 [b] := Q31.trans K32 (allS (Or.inl (List.mem_of_getElem? (i := 0) rfl)) all0)
  refine f_goto A32 d13_22 (pc' := 38) (by decide) (by decide) ?_
  have c34 := ((V24.keep K26 (ninS (Ne.symm (Nat.ne_of_lt (Nat.lt_of_lt_of_le E.lt (Nat.le_of_eq g24.symm)))) nin0)).keep K32 (ninS (Ne.symm (Nat.ne_of_lt (Nat.lt_of_lt_of_le E.lt (Nat.le_of_eq g24.symm)))) nin0))
  have c35 := ((X24.keep K26).keep K32)
  exact f_retN A32 hlk hret d13_38 (by decide) (by decide) Q33 ⟨rfl, a24, k24, z24, y24, X32, (F26.other W32 (Or.inr (slot_ne (Or.inl (wd hw 80 rfl)) (Or.inl (wd hw 82 rfl)) (by decide) (t := (.array .byte)) (t' := .byte) (by decide) (by decide)))), F32, ((c30.other W26 (Or.inr (slot_ne (Or.inl (wd hw 99 rfl)) (Or.inl (wd hw 80 rfl)) (by decide) (t := .int) (t' := (.array .byte)) (by decide) (by decide)))).other W32 (Or.inr (slot_ne (Or.inl (wd hw 99 rfl)) (Or.inl (wd hw 82 rfl)) (by decide) (t := .int) (t' := .byte) (by decide) (by decide)))), by rw [pad_nil]; exact c34, c35⟩
theorem pn2 : plainName "java/lang/StringBuilder" = true := by first | (simp [plainName, overriddenIn]; done) | decide +kernel
theorem d12_0 : decode jdk_67_method_1_code 0 = .ok (.aload_n 0, 1) := by decide +kernel
theorem d12_1 : decode jdk_67_method_1_code 1 = .ok (.bipush 16, 2) := by decide +kernel
theorem d12_3 : decode jdk_67_method_1_code 3 = .ok (.invokespecial 1, 3) := by decide +kernel
theorem pd1 : parseMethodDescriptor "(I)V" = some ⟨[.int], none⟩ := by decide +kernel
theorem d12_6 : decode jdk_67_method_1_code 6 = .ok (.return_, 1) := by decide +kernel
set_option maxRecDepth 65536 in
set_option maxHeartbeats 40000000 in
theorem m_sbI (l : Launch) (Z : State) (a0 : Array Value) (hw : ∀ d ∈ tables_1, d.before a0 Z = true) (b : Addr) (zc : Int32) (O2 : Sta Z Z.heap "java/lang/String" "COMPACT_STRINGS" "Z" (.int zc)) (P5 : ¬ zc = 0) (h0 : Heap) (n0 : Nat) (ho : Old Z n0 h0) (E : Exa Z h0 b "java/lang/StringBuilder") (Fv : Fld Z h0 b "java/lang/AbstractStringBuilder" "value" "[B" .null) (Fc : Fld Z h0 b "java/lang/AbstractStringBuilder" "coder" "B" (.int 0)) (Fn : Fld Z h0 b "java/lang/AbstractStringBuilder" "count" "I" (.int 0)) (gb : n0 ≤ b) :
    CN l (⟨"java/lang/StringBuilder", "<init>", "()V"⟩ : MethodName) jdk_67_method_1_code 1 none [] ({ frames := 2, cells := 1, slots := 16, locals := 28 } : Room) Z n0 h0 #[(.ref b)] [b] (fun r h => r = none ∧ ∃ (v : Addr) (kb : ClassId), n0 ≤ v ∧ h0.size ≤ v ∧ SBd Z h b v kb 16 []) := by
  refine CN.walk (plainFor_of_name pn2) ho (L0 := #[.val (.ref b)]) (fun m => rfl) ?_
  intro pG e s m below meth cO T hlk hret hnm A0
  have K0 : Keep h0 h0 [b] := Keep.refl _ _
  refine f_aloadN A0 d12_0 (pc' := 1) rfl rfl rfl ?_
  refine f_bipush A0 d12_1 (pc' := 3) rfl 16 rfl ?_
  refine f_callI A0 (a := b) d12_3 (pc' := 6) rfl rfl (wd hw 71 rfl) (wd hw 72 rfl) (wd hw 76 rfl) (by decide) pd1 [(.int (16 : Int32))] [] rfl rfl rfl 0 (Nat.le_of_eq rfl) (CN.pay (W := 0) A0 (m_asbI l Z a0 hw b zc O2 P5 h0 n0 A0.old E Fv Fc Fn gb) (wd hw 76 rfl) (wd hw 75 rfl) (by decide) (by decide)) (kc := 1) (ks := 16) (by decide) (by decide) (allS gb all0) (fun q => nomatch q) fun v36 T36 h36 L36 A36 K36 q36 => ?_
  have Q37 : Keep h0 h36 [b] := K0.trans K36 (allS (Or.inl (List.mem_of_getElem? (i := 0) rfl)) all0)
  obtain ⟨rfl, v, kb, zv, gv, B⟩ := q36
  show Wp pG e below _ T36 (mkF m 6 _ [])
  exact f_retN A36 hlk hret d12_6 (by decide) (by decide) Q37 ⟨rfl, v, kb, zv, gv, B⟩
theorem d9_0 : decode jdk_42_method_152_code 0 = .ok (.getstatic 38, 3) := by decide +kernel
theorem d9_3 : decode jdk_42_method_152_code 3 = .ok (.ifCond .eq 10, 3) := by decide +kernel
theorem d9_6 : decode jdk_42_method_152_code 6 = .ok (.aload_n 0, 1) := by decide +kernel
theorem d9_7 : decode jdk_42_method_152_code 7 = .ok (.getfield 15, 3) := by decide +kernel
theorem d9_10 : decode jdk_42_method_152_code 10 = .ok (.goto 4, 3) := by decide +kernel
theorem d9_14 : decode jdk_42_method_152_code 14 = .ok (.ireturn, 1) := by decide +kernel
set_option maxRecDepth 65536 in
set_option maxHeartbeats 40000000 in
theorem m_cod0 (l : Launch) (Z : State) (a0 : Array Value) (hw : ∀ d ∈ tables_1, d.before a0 Z = true) (x : Addr) (zc : Int32) (O2 : Sta Z Z.heap "java/lang/String" "COMPACT_STRINGS" "Z" (.int zc)) (P5 : ¬ zc = 0) (h0 : Heap) (n0 : Nat) (ho : Old Z n0 h0) (C : Fld Z h0 x "java/lang/String" "coder" "B" (.int 0)) :
    CN l (⟨"java/lang/String", "coder", "()B"⟩ : MethodName) jdk_42_method_152_code 1 (some .byte) [] ({ frames := 0, cells := 0, slots := 0, locals := 0 } : Room) Z n0 h0 #[(.ref x)] [] (fun v h => v = some (.int 0) ∧ h = h0) := by
  refine CN.walk (plainFor_of_name pn0) ho (L0 := #[.val (.ref x)]) (fun m => rfl) ?_
  intro pG e s m below meth cO T hlk hret hnm A0
  have K0 : Keep h0 h0 [] := Keep.refl _ _
  refine f_getS A0 d9_0 (pc' := 3) rfl (host := "") (Or.inl (wd hw 55 rfl)) Via.refl O2 fun T38 A38 => ?_
  refine f_ifN A38 d9_3 ((if0 _ _).trans (feq P5).1) (pc' := 6) rfl ?_
  refine f_aloadN A38 d9_6 (pc' := 7) rfl rfl rfl ?_
  refine f_getF A38 d9_7 (pc' := 10) rfl (host := "") (Or.inl (wd hw 25 rfl)) Via.refl C fun T39 A39 => ?_
  refine f_goto A39 d9_10 (pc' := 14) (by decide) (by decide) ?_
  exact f_retBN A39 hlk hret d9_14 (by decide) (0 : Int32) (by decide) (by decide) (by decide) K0 ⟨rfl, rfl⟩
theorem d19_0 : decode jdk_68_method_71_code 0 = .ok (.getstatic 18, 3) := by decide +kernel
theorem d19_3 : decode jdk_68_method_71_code 3 = .ok (.ifCond .eq 18, 3) := by decide +kernel
theorem d19_6 : decode jdk_68_method_71_code 6 = .ok (.aload_n 0, 1) := by decide +kernel
theorem d19_7 : decode jdk_68_method_71_code 7 = .ok (.getfield 22, 3) := by decide +kernel
theorem d19_10 : decode jdk_68_method_71_code 10 = .ok (.aload_n 1, 1) := by decide +kernel
theorem d19_11 : decode jdk_68_method_71_code 11 = .ok (.invokevirtual 40, 3) := by decide +kernel
theorem pd2 : parseMethodDescriptor "()B" = some ⟨[], some .byte⟩ := by decide +kernel
theorem d19_14 : decode jdk_68_method_71_code 14 = .ok (.if_icmp .eq 7, 3) := by decide +kernel
theorem d19_21 : decode jdk_68_method_71_code 21 = .ok (.return_, 1) := by decide +kernel
set_option maxRecDepth 65536 in
set_option maxHeartbeats 40000000 in
theorem m_infl (l : Launch) (Z : State) (a0 : Array Value) (hw : ∀ d ∈ tables_1, d.before a0 Z = true) (b v : Addr) (kb : ClassId) (cap : Nat) (cs : List Int32) (x t : Addr) (ds : List Int32) (zc : Int32) (O2 : Sta Z Z.heap "java/lang/String" "COMPACT_STRINGS" "Z" (.int zc)) (P5 : ¬ zc = 0) (h0 : Heap) (n0 : Nat) (ho : Old Z n0 h0) (B : SBd Z h0 b v kb cap cs) (F : Str Z h0 x t ds) (lat : ∀ c ∈ ds, ¬ (255 : Int32) < c) :
    CN l (⟨"java/lang/AbstractStringBuilder", "inflateIfNeededFor", "(Ljava/lang/String;)V"⟩ : MethodName) jdk_68_method_71_code 2 none [] ({ frames := 1, cells := 0, slots := 0, locals := 20 } : Room) Z n0 h0 #[(.ref b), (.ref x)] [] (fun r h => r = none ∧ h = h0) := by
  refine CN.walk (plainFor_of_name pn1) ho (L0 := #[.val (.ref b), .val (.ref x)]) (fun m => rfl) ?_
  intro pG e s m below meth cO T hlk hret hnm A0
  have K0 : Keep h0 h0 [] := Keep.refl _ _
  obtain ⟨E_, Fv_, Fc_, Fn_, V_, Ev_⟩ := id B
  obtain ⟨kb40, fv40, fc40, av40⟩ := F.openL lat
  refine f_getS A0 d19_0 (pc' := 3) rfl (host := "") (Or.inl (wd hw 78 rfl)) Via.refl O2 fun T41 A41 => ?_
  refine f_ifN A41 d19_3 ((if0 _ _).trans (feq P5).1) (pc' := 6) rfl ?_
  refine f_aloadN A41 d19_6 (pc' := 7) rfl rfl rfl ?_
  refine f_getF A41 d19_7 (pc' := 10) rfl (host := "") (Or.inl (wd hw 81 rfl)) Via.refl Fc_ fun T42 A42 => ?_
  refine f_aloadN A42 d19_10 (pc' := 11) rfl rfl rfl ?_
  refine f_callV A42 (a := x) d19_11 (pc' := 14) rfl (wd hw 115 rfl) (wd hw 51 rfl) (nfS A42 (wd hw 53 rfl)) (wd hw 53 rfl) (wd hw 52 rfl) (by decide) F.exa pd2 [] [(.int (0 : Int32))] rfl rfl rfl 1 (Nat.le_of_eq rfl) (CN.pay (W := 1) A42 (m_cod0 l Z a0 hw x zc O2 P5 h0 n0 A42.old fc40) (wd hw 54 rfl) (wd hw 6 rfl) (by decide) (by decide)) (kc := 0) (ks := 0) (by decide) (by decide) all0 (fun q => nomatch q) fun v43 T43 h43 L43 A43 K43 q43 => ?_
  obtain ⟨rfl, hh43⟩ := q43
  obtain rfl := hh43.symm
  show Wp pG e below _ T43 (mkF m 14 _ [(.int (0 : Int32)), (.int (0 : Int32))])
  refine f_icY A43 d19_14 (teq (by decide : (0 : Int32) = (0 : Int32))).1 (pc' := 21) (by decide) (by decide) ?_
  exact f_retN A43 hlk hret d19_21 (by decide) (by decide) K0 ⟨rfl, rfl⟩
theorem d20_0 : decode jdk_42_method_147_code 0 = .ok (.aload_n 0, 1) := by decide +kernel
theorem d20_1 : decode jdk_42_method_147_code 1 = .ok (.invokevirtual 335, 3) := by decide +kernel
theorem d20_4 : decode jdk_42_method_147_code 4 = .ok (.iload_n 3, 1) := by decide +kernel
theorem d20_5 : decode jdk_42_method_147_code 5 = .ok (.if_icmp .ne 23, 3) := by decide +kernel
theorem d20_8 : decode jdk_42_method_147_code 8 = .ok (.aload_n 0, 1) := by decide +kernel
theorem d20_9 : decode jdk_42_method_147_code 9 = .ok (.getfield 9, 3) := by decide +kernel
theorem d20_12 : decode jdk_42_method_147_code 12 = .ok (.iconst 0, 1) := by decide +kernel
theorem d20_13 : decode jdk_42_method_147_code 13 = .ok (.aload_n 1, 1) := by decide +kernel
theorem d20_14 : decode jdk_42_method_147_code 14 = .ok (.iload_n 2, 1) := by decide +kernel
theorem d20_15 : decode jdk_42_method_147_code 15 = .ok (.iload_n 3, 1) := by decide +kernel
theorem d20_16 : decode jdk_42_method_147_code 16 = .ok (.ishl, 1) := by decide +kernel
theorem d20_17 : decode jdk_42_method_147_code 17 = .ok (.aload_n 0, 1) := by decide +kernel
theorem d20_18 : decode jdk_42_method_147_code 18 = .ok (.getfield 9, 3) := by decide +kernel
theorem d20_21 : decode jdk_42_method_147_code 21 = .ok (.arraylength, 1) := by decide +kernel
theorem d20_22 : decode jdk_42_method_147_code 22 = .ok (.invokestatic 212, 3) := by decide +kernel
theorem d20_25 : decode jdk_42_method_147_code 25 = .ok (.goto 18, 3) := by decide +kernel
theorem d20_43 : decode jdk_42_method_147_code 43 = .ok (.return_, 1) := by decide +kernel
set_option maxRecDepth 65536 in
set_option maxHeartbeats 40000000 in
theorem m_getB (l : Launch) (Z : State) (a0 : Array Value) (hw : ∀ d ∈ tables_1, d.before a0 Z = true) (x t : Addr) (ds : List Int32) (v : Addr) (kb : ClassId) (cap : Nat) (cs : List Int32) (zc : Int32) (O2 : Sta Z Z.heap "java/lang/String" "COMPACT_STRINGS" "Z" (.int zc)) (P5 : ¬ zc = 0) (h0 : Heap) (n0 : Nat) (ho : Old Z n0 h0) (F : Str Z h0 x t ds) (lat : ∀ c ∈ ds, ¬ (255 : Int32) < c) (V : Arv Z h0 v kb .byte (Int32.ofNat cap) (pad cap cs) (.int 0)) (hcap : cs.length + ds.length ≤ cap) (hb : cap < 2147483648) (gv : n0 ≤ v) (ntv : t ≠ v) :
    CN l (⟨"java/lang/String", "getBytes", "([BIB)V"⟩ : MethodName) jdk_42_method_147_code 4 none [] ({ frames := 1, cells := 0, slots := 0, locals := 60 } : Room) Z n0 h0 #[(.ref x), (.ref v), (.int (Int32.ofNat cs.length)), (.int (0 : Int32))] [v] (fun r h => r = none ∧ Arv Z h v kb .byte (Int32.ofNat cap) (pad cap (cs ++ ds)) (.int 0)) := by
  refine CN.walk (plainFor_of_name pn0) ho (L0 := #[.val (.ref x), .val (.ref v), .val (.int (Int32.ofNat cs.length)), .val (.int (0 : Int32))]) (fun m => rfl) ?_
  intro pG e s m below meth cO T hlk hret hnm A0
  have K0 : Keep h0 h0 [v] := Keep.refl _ _
  obtain ⟨kb44, fv44, fc44, av44⟩ := F.openL lat
  refine f_aloadN A0 d20_0 (pc' := 1) rfl rfl rfl ?_
  refine f_callV A0 (a := x) d20_1 (pc' := 4) rfl (wd hw 50 rfl) (wd hw 51 rfl) (nfS A0 (wd hw 53 rfl)) (wd hw 53 rfl) (wd hw 52 rfl) (by decide) F.exa pd2 [] [] rfl rfl rfl 0 (Nat.le_of_eq rfl) (CN.pay (W := 0) A0 (m_cod0 l Z a0 hw x zc O2 P5 h0 n0 A0.old fc44) (wd hw 54 rfl) (wd hw 6 rfl) (by decide) (by decide)) (kc := 0) (ks := 0) (by decide) (by decide) all0 (fun q => nomatch q) fun v45 T45 h45 L45 A45 K45 q45 => ?_
  obtain ⟨rfl, hh45⟩ := q45
  obtain rfl := hh45.symm
  show Wp pG e below _ T45 (mkF m 4 _ [(.int (0 : Int32))])
  refine f_iloadN A45 d20_4 (pc' := 5) rfl rfl ?_
  refine f_icN A45 d20_5 (teq (by decide : (0 : Int32) = (0 : Int32))).2 (pc' := 8) rfl ?_
  refine f_aloadN A45 d20_8 (pc' := 9) rfl rfl rfl ?_
  refine f_getF A45 d20_9 (pc' := 12) rfl (host := "") (Or.inl (wd hw 24 rfl)) Via.refl fv44 fun T46 A46 => ?_
  refine f_iconst A46 d20_12 (pc' := 13) rfl 0 rfl ?_
  refine f_aloadN A46 d20_13 (pc' := 14) rfl rfl rfl ?_
  refine f_iloadN A46 d20_14 (pc' := 15) rfl rfl ?_
  refine f_iloadN A46 d20_15 (pc' := 16) rfl rfl ?_
  refine f_ishl A46 d20_16 (pc' := 17) rfl (Int32.ofNat cs.length) (shl0 _) ?_
  refine f_aloadN A46 d20_17 (pc' := 18) rfl rfl rfl ?_
  refine f_getF A46 d20_18 (pc' := 21) rfl (host := "") (Or.inl (wd hw 24 rfl)) Via.refl fv44 fun T47 A47 => ?_
  refine f_arraylength A47 d20_21 (pc' := 22) rfl av44 ?_
  refine f_arrcpy A47 0 d20_22 (pc' := 25) rfl (wd hw 121 rfl) (wd hw 124 rfl) (wd hw 122 rfl) (wd hw 123 rfl) av44 V (Or.inl ⟨rfl, rfl⟩) (by decide) (ofn_nn (by omega)) (ofn_nn (by omega)) (by rw [ofn_clamp (by omega)]; exact Nat.le_of_eq (Nat.zero_add _)) (by rw [ofn_clamp (by omega), ofn_clamp (by omega), ofn_clamp (by omega)]; exact hcap) (us := (ds.map fun c => Value.int (StrChars.lo8 c))) (by rw [ofn_clamp (by omega)]; exact (by simpa using (rng_get (vs := ds.map fun c => Value.int (StrChars.lo8 c)) (d := .int 0)).symm)) (by rw [ofn_clamp (by omega), ofn_clamp (by omega), pad_len (by omega)]; exact hcap) (vd' := (pad cap (cs ++ ds))) (by rw [ofn_clamp (by omega), ofn_clamp (by omega)]; exact pad_cpy hcap) gv (fun q => nomatch q) rfl (by decide) (Nat.le_of_eq rfl) (by decide) fun T48 h48 L48 A48 K48 V48 => ?_
  have Q49 : Keep h0 h48 [v] := K0.trans K48 (allS (Or.inl (List.mem_of_getElem? (i := 0) rfl)) all0)
  refine f_goto A48 d20_25 (pc' := 43) (by decide) (by decide) ?_
  exact f_retN A48 hlk hret d20_43 (by decide) (by decide) Q49 ⟨rfl, V48⟩
theorem d18_0 : decode jdk_68_method_73_code 0 = .ok (.aload_n 0, 1) := by decide +kernel
theorem d18_1 : decode jdk_68_method_73_code 1 = .ok (.aload_n 2, 1) := by decide +kernel
theorem d18_2 : decode jdk_68_method_73_code 2 = .ok (.invokevirtual 397, 3) := by decide +kernel
theorem pd3 : parseMethodDescriptor "(Ljava/lang/String;)V" = some ⟨[(.object "java/lang/String")], none⟩ := by decide +kernel
theorem d18_5 : decode jdk_68_method_73_code 5 = .ok (.aload_n 2, 1) := by decide +kernel
theorem d18_6 : decode jdk_68_method_73_code 6 = .ok (.aload_n 0, 1) := by decide +kernel
theorem d18_7 : decode jdk_68_method_73_code 7 = .ok (.getfield 15, 3) := by decide +kernel
theorem d18_10 : decode jdk_68_method_73_code 10 = .ok (.iload_n 1, 1) := by decide +kernel
theorem d18_11 : decode jdk_68_method_73_code 11 = .ok (.aload_n 0, 1) := by decide +kernel
theorem d18_12 : decode jdk_68_method_73_code 12 = .ok (.getfield 22, 3) := by decide +kernel
theorem d18_15 : decode jdk_68_method_73_code 15 = .ok (.invokevirtual 399, 3) := by decide +kernel
theorem pd4 : parseMethodDescriptor "([BIB)V" = some ⟨[(.array .byte), .int, .byte], none⟩ := by decide +kernel
theorem d18_18 : decode jdk_68_method_73_code 18 = .ok (.return_, 1) := by decide +kernel
set_option maxRecDepth 65536 in
set_option maxHeartbeats 40000000 in
theorem m_putS (l : Launch) (Z : State) (a0 : Array Value) (hw : ∀ d ∈ tables_1, d.before a0 Z = true) (b v : Addr) (kb : ClassId) (cap : Nat) (cs : List Int32) (x t : Addr) (ds : List Int32) (zc : Int32) (O2 : Sta Z Z.heap "java/lang/String" "COMPACT_STRINGS" "Z" (.int zc)) (P5 : ¬ zc = 0) (h0 : Heap) (n0 : Nat) (ho : Old Z n0 h0) (B : SBd Z h0 b v kb cap cs) (F : Str Z h0 x t ds) (lat : ∀ c ∈ ds, ¬ (255 : Int32) < c) (hcap : cs.length + ds.length ≤ cap) (hb : cap < 2147483648) (gb : n0 ≤ b) (gv : n0 ≤ v) (nbv : b ≠ v) (ntv : t ≠ v) :
    CN l (⟨"java/lang/AbstractStringBuilder", "putStringAt", "(ILjava/lang/String;)V"⟩ : MethodName) jdk_68_method_73_code 3 none [] ({ frames := 2, cells := 0, slots := 0, locals := 90 } : Room) Z n0 h0 #[(.ref b), (.int (Int32.ofNat cs.length)), (.ref x)] [v] (fun r h => r = none ∧ Arv Z h v kb .byte (Int32.ofNat cap) (pad cap (cs ++ ds)) (.int 0)) := by
  refine CN.walk (plainFor_of_name pn1) ho (L0 := #[.val (.ref b), .val (.int (Int32.ofNat cs.length)), .val (.ref x)]) (fun m => rfl) ?_
  intro pG e s m below meth cO T hlk hret hnm A0
  have K0 : Keep h0 h0 [v] := Keep.refl _ _
  obtain ⟨E_, Fv_, Fc_, Fn_, V_, Ev_⟩ := id B
  obtain ⟨kb50, fv50, fc50, av50⟩ := F.openL lat
  refine f_aloadN A0 d18_0 (pc' := 1) rfl rfl rfl ?_
  refine f_aloadN A0 d18_1 (pc' := 2) rfl rfl rfl ?_
  refine f_callP A0 (a := b) d18_2 (pc' := 5) rfl (wd hw 110 rfl) (wd hw 111 rfl) (wd hw 112 rfl) (wd hw 113 rfl) (wd hw 114 rfl) (by decide) E_ pd3 [(.ref x)] [] rfl rfl rfl 0 (Nat.le_of_eq rfl) (CN.pay (W := 0) A0 (m_infl l Z a0 hw b v kb cap cs x t ds zc O2 P5 h0 n0 A0.old B F lat) (wd hw 114 rfl) (wd hw 75 rfl) (by decide) (by decide)) (kc := 0) (ks := 0) (by decide) (by decide) all0 (fun q => nomatch q) fun v51 T51 h51 L51 A51 K51 q51 => ?_
  obtain ⟨rfl, hh51⟩ := q51
  obtain rfl := hh51.symm
  show Wp pG e below _ T51 (mkF m 5 _ [])
  refine f_aloadN A51 d18_5 (pc' := 6) rfl rfl rfl ?_
  refine f_aloadN A51 d18_6 (pc' := 7) rfl rfl rfl ?_
  refine f_getF A51 d18_7 (pc' := 10) rfl (host := "") (Or.inl (wd hw 79 rfl)) Via.refl Fv_ fun T52 A52 => ?_
  refine f_iloadN A52 d18_10 (pc' := 11) rfl rfl ?_
  refine f_aloadN A52 d18_11 (pc' := 12) rfl rfl rfl ?_
  refine f_getF A52 d18_12 (pc' := 15) rfl (host := "") (Or.inl (wd hw 81 rfl)) Via.refl Fc_ fun T53 A53 => ?_
  refine f_callV A53 (a := x) d18_15 (pc' := 18) rfl (wd hw 116 rfl) (wd hw 117 rfl) (nfS A53 (wd hw 119 rfl)) (wd hw 119 rfl) (wd hw 118 rfl) (by decide) F.exa pd4 [(.ref v), (.int (Int32.ofNat cs.length)), (.int (0 : Int32))] [] rfl rfl rfl 0 (Nat.le_of_eq rfl) (CN.pay (W := 0) A53 (m_getB l Z a0 hw x t ds v kb cap cs zc O2 P5 h0 n0 A53.old F lat V_ hcap hb gv ntv) (wd hw 120 rfl) (wd hw 6 rfl) (by decide) (by decide)) (kc := 0) (ks := 0) (by decide) (by decide) (allS gv all0) (fun q => nomatch q) fun v54 T54 h54 L54 A54 K54 q54 => ?_
  have Q55 : Keep h0 h54 [v] := K0.trans K54 (allS (Or.inl (List.mem_of_getElem? (i := 0) rfl)) all0)
  obtain ⟨rfl, V54⟩ := q54
  show Wp pG e below _ T54 (mkF m 18 _ [])
  exact f_retN A54 hlk hret d18_18 (by decide) (by decide) Q55 ⟨rfl, V54⟩
theorem d17_0 : decode jdk_68_method_9_code 0 = .ok (.aload_n 0, 1) := by decide +kernel
theorem d17_1 : decode jdk_68_method_9_code 1 = .ok (.getfield 15, 3) := by decide +kernel
theorem d17_4 : decode jdk_68_method_9_code 4 = .ok (.arraylength, 1) := by decide +kernel
theorem d17_5 : decode jdk_68_method_9_code 5 = .ok (.aload_n 0, 1) := by decide +kernel
theorem d17_6 : decode jdk_68_method_9_code 6 = .ok (.getfield 22, 3) := by decide +kernel
theorem d17_9 : decode jdk_68_method_9_code 9 = .ok (.ishr, 1) := by decide +kernel
theorem d17_10 : decode jdk_68_method_9_code 10 = .ok (.istore_n 2, 1) := by decide +kernel
theorem d17_11 : decode jdk_68_method_9_code 11 = .ok (.iload_n 1, 1) := by decide +kernel
theorem d17_12 : decode jdk_68_method_9_code 12 = .ok (.iload_n 2, 1) := by decide +kernel
theorem d17_13 : decode jdk_68_method_9_code 13 = .ok (.isub, 1) := by decide +kernel
theorem d17_14 : decode jdk_68_method_9_code 14 = .ok (.ifCond .le 24, 3) := by decide +kernel
theorem d17_38 : decode jdk_68_method_9_code 38 = .ok (.return_, 1) := by decide +kernel
set_option maxRecDepth 65536 in
set_option maxHeartbeats 40000000 in
theorem m_ens (l : Launch) (Z : State) (a0 : Array Value) (hw : ∀ d ∈ tables_1, d.before a0 Z = true) (b v : Addr) (kb : ClassId) (cap : Nat) (cs : List Int32) (mn : Nat) (h0 : Heap) (n0 : Nat) (ho : Old Z n0 h0) (B : SBd Z h0 b v kb cap cs) (hm : mn ≤ cap) (hb : cap < 2147483648) :
    CN l (⟨"java/lang/AbstractStringBuilder", "ensureCapacityInternal", "(I)V"⟩ : MethodName) jdk_68_method_9_code 3 none [] ({ frames := 0, cells := 0, slots := 0, locals := 0 } : Room) Z n0 h0 #[(.ref b), (.int (Int32.ofNat mn))] [] (fun r h => r = none ∧ h = h0) := by
  refine CN.walk (plainFor_of_name pn1) ho (L0 := #[.val (.ref b), .val (.int (Int32.ofNat mn)), .unset]) (fun m => rfl) ?_
  intro pG e s m below meth cO T hlk hret hnm A0
  have K0 : Keep h0 h0 [] := Keep.refl _ _
  obtain ⟨E_, Fv_, Fc_, Fn_, V_, Ev_⟩ := id B
  refine f_aloadN A0 d17_0 (pc' := 1) rfl rfl rfl ?_
  refine f_getF A0 d17_1 (pc' := 4) rfl (host := "") (Or.inl (wd hw 79 rfl)) Via.refl Fv_ fun T56 A56 => ?_
  refine f_arraylength A56 d17_4 (pc' := 5) rfl V_ ?_
  refine f_aloadN A56 d17_5 (pc' := 6) rfl rfl rfl ?_
  refine f_getF A56 d17_6 (pc' := 9) rfl (host := "") (Or.inl (wd hw 81 rfl)) Via.refl Fc_ fun T57 A57 => ?_
  refine f_ishr A57 d17_9 (pc' := 10) rfl (Int32.ofNat cap) (StrChars.shr0 _) ?_
  refine f_istoreN A57 d17_10 (pc' := 11) rfl (L' := #[.val (.ref b), .val (.int (Int32.ofNat mn)), .val (.int (Int32.ofNat cap))]) rfl ?_
  refine f_iloadN A57 d17_11 (pc' := 12) rfl rfl ?_
  refine f_iloadN A57 d17_12 (pc' := 13) rfl rfl ?_
  refine f_isub A57 d17_13 (pc' := 14) rfl ((Int32.ofNat mn) - (Int32.ofNat cap)) rfl ?_
  refine f_ifY A57 d17_14 ((if0 _ _).trans (flt (ofn_le0 hm hb)).2.2.2) (pc' := 38) (by decide) (by decide) ?_
  exact f_retN A57 hlk hret d17_38 (by decide) (by decide) K0 ⟨rfl, rfl⟩
theorem d15_0 : decode jdk_68_method_22_code 0 = .ok (.aload_n 1, 1) := by decide +kernel
theorem d15_1 : decode jdk_68_method_22_code 1 = .ok (.ifnonnull 8, 3) := by decide +kernel
theorem d15_9 : decode jdk_68_method_22_code 9 = .ok (.aload_n 1, 1) := by decide +kernel
theorem d15_10 : decode jdk_68_method_22_code 10 = .ok (.invokevirtual 32, 3) := by decide +kernel
theorem pd5 : parseMethodDescriptor "()I" = some ⟨[], some .int⟩ := by decide +kernel
theorem d15_13 : decode jdk_68_method_22_code 13 = .ok (.istore_n 2, 1) := by decide +kernel
theorem d15_14 : decode jdk_68_method_22_code 14 = .ok (.aload_n 0, 1) := by decide +kernel
theorem d15_15 : decode jdk_68_method_22_code 15 = .ok (.aload_n 0, 1) := by decide +kernel
theorem d15_16 : decode jdk_68_method_22_code 16 = .ok (.getfield 79, 3) := by decide +kernel
theorem d15_19 : decode jdk_68_method_22_code 19 = .ok (.iload_n 2, 1) := by decide +kernel
theorem d15_20 : decode jdk_68_method_22_code 20 = .ok (.iadd, 1) := by decide +kernel
theorem d15_21 : decode jdk_68_method_22_code 21 = .ok (.invokevirtual 100, 3) := by decide +kernel
theorem d15_24 : decode jdk_68_method_22_code 24 = .ok (.aload_n 0, 1) := by decide +kernel
theorem d15_25 : decode jdk_68_method_22_code 25 = .ok (.aload_n 0, 1) := by decide +kernel
theorem d15_26 : decode jdk_68_method_22_code 26 = .ok (.getfield 79, 3) := by decide +kernel
theorem d15_29 : decode jdk_68_method_22_code 29 = .ok (.aload_n 1, 1) := by decide +kernel
theorem d15_30 : decode jdk_68_method_22_code 30 = .ok (.invokevirtual 208, 3) := by decide +kernel
theorem pd6 : parseMethodDescriptor "(ILjava/lang/String;)V" = some ⟨[.int, (.object "java/lang/String")], none⟩ := by decide +kernel
theorem d15_33 : decode jdk_68_method_22_code 33 = .ok (.aload_n 0, 1) := by decide +kernel
theorem d15_34 : decode jdk_68_method_22_code 34 = .ok (.dup, 1) := by decide +kernel
theorem d15_35 : decode jdk_68_method_22_code 35 = .ok (.getfield 79, 3) := by decide +kernel
theorem d15_38 : decode jdk_68_method_22_code 38 = .ok (.iload_n 2, 1) := by decide +kernel
theorem d15_39 : decode jdk_68_method_22_code 39 = .ok (.iadd, 1) := by decide +kernel
theorem d15_40 : decode jdk_68_method_22_code 40 = .ok (.putfield 79, 3) := by decide +kernel
theorem d15_43 : decode jdk_68_method_22_code 43 = .ok (.aload_n 0, 1) := by decide +kernel
theorem d15_44 : decode jdk_68_method_22_code 44 = .ok (.areturn, 1) := by decide +kernel
set_option maxRecDepth 65536 in
set_option maxHeartbeats 40000000 in
theorem m_asbA (l : Launch) (Z : State) (a0 : Array Value) (hw : ∀ d ∈ tables_1, d.before a0 Z = true) (b v : Addr) (kb : ClassId) (cap : Nat) (cs : List Int32) (x t : Addr) (ds : List Int32) (zc : Int32) (O2 : Sta Z Z.heap "java/lang/String" "COMPACT_STRINGS" "Z" (.int zc)) (P5 : ¬ zc = 0) (h0 : Heap) (n0 : Nat) (ho : Old Z n0 h0) (B : SBd Z h0 b v kb cap cs) (F : Str Z h0 x t ds) (lat : ∀ c ∈ ds, ¬ (255 : Int32) < c) (hcap : cs.length + ds.length ≤ cap) (hb : cap < 2147483648) (gb : n0 ≤ b) (gv : n0 ≤ v) (nbv : b ≠ v) (ntv : t ≠ v) :
    CN l (⟨"java/lang/AbstractStringBuilder", "append", "(Ljava/lang/String;)Ljava/lang/AbstractStringBuilder;"⟩ : MethodName) jdk_68_method_22_code 3 (some (.object "java/lang/AbstractStringBuilder")) [] ({ frames := 4, cells := 0, slots := 0, locals := 120 } : Room) Z n0 h0 #[(.ref b), (.ref x)] [b, v] (fun r h => r = some (.ref b) ∧ SBd Z h b v kb cap (cs ++ ds)) := by
  refine CN.walk (plainFor_of_name pn1) ho (L0 := #[.val (.ref b), .val (.ref x), .unset]) (fun m => rfl) ?_
  intro pG e s m below meth cO T hlk hret hnm A0
  have K0 : Keep h0 h0 [b, v] := Keep.refl _ _
  obtain ⟨E_, Fv_, Fc_, Fn_, V_, Ev_⟩ := id B
  obtain ⟨kb58, fv58, fc58, av58⟩ := F.openL lat
  refine f_aloadN A0 d15_0 (pc' := 1) rfl rfl rfl ?_
  refine f_nonY A0 d15_1 (pc' := 9) (by decide) (by decide) ?_
  refine f_aloadN A0 d15_9 (pc' := 10) rfl rfl rfl ?_
  refine f_callV A0 (a := x) d15_10 (pc' := 13) rfl (wd hw 93 rfl) (wd hw 94 rfl) (nfS A0 (wd hw 96 rfl)) (wd hw 96 rfl) (wd hw 95 rfl) (by decide) F.exa pd5 [] [] rfl rfl rfl 0 (Nat.le_of_eq rfl) (payLen (W := 0) A0 hw (wd hw 5 rfl) F O2 P5 (by decide) (by decide)) (kc := 0) (ks := 0) (by decide) (by decide) all0 (fun q => nomatch q) fun v59 T59 h59 L59 A59 K59 q59 => ?_
  obtain ⟨rfl, hh59⟩ := q59
  obtain rfl := hh59.symm
  show Wp pG e below _ T59 (mkF m 13 _ [(.int (Int32.ofNat ds.length))])
  refine f_istoreN A59 d15_13 (pc' := 14) rfl (L' := #[.val (.ref b), .val (.ref x), .val (.int (Int32.ofNat ds.length))]) rfl ?_
  refine f_aloadN A59 d15_14 (pc' := 15) rfl rfl rfl ?_
  refine f_aloadN A59 d15_15 (pc' := 16) rfl rfl rfl ?_
  refine f_getF A59 d15_16 (pc' := 19) rfl (host := "") (Or.inl (wd hw 98 rfl)) Via.refl Fn_ fun T60 A60 => ?_
  refine f_iloadN A60 d15_19 (pc' := 20) rfl rfl ?_
  refine f_iadd A60 d15_20 (pc' := 21) rfl (Int32.ofNat (cs.length + ds.length)) (ofn_add (by omega)) ?_
  refine f_callP A60 (a := b) d15_21 (pc' := 24) rfl (wd hw 100 rfl) (wd hw 101 rfl) (wd hw 102 rfl) (wd hw 103 rfl) (wd hw 104 rfl) (by decide) E_ pd1 [(.int (Int32.ofNat (cs.length + ds.length)))] [] rfl rfl rfl 0 (Nat.le_of_eq rfl) (CN.pay (W := 0) A60 (m_ens l Z a0 hw b v kb cap cs _ h0 n0 A60.old B hcap hb) (wd hw 104 rfl) (wd hw 75 rfl) (by decide) (by decide)) (kc := 0) (ks := 0) (by decide) (by decide) all0 (fun q => nomatch q) fun v61 T61 h61 L61 A61 K61 q61 => ?_
  obtain ⟨rfl, hh61⟩ := q61
  obtain rfl := hh61.symm
  show Wp pG e below _ T61 (mkF m 24 _ [])
  refine f_aloadN A61 d15_24 (pc' := 25) rfl rfl rfl ?_
  refine f_aloadN A61 d15_25 (pc' := 26) rfl rfl rfl ?_
  refine f_getF A61 d15_26 (pc' := 29) rfl (host := "") (Or.inl (wd hw 98 rfl)) Via.refl Fn_ fun T62 A62 => ?_
  refine f_aloadN A62 d15_29 (pc' := 30) rfl rfl rfl ?_
  refine f_callP A62 (a := b) d15_30 (pc' := 33) rfl (wd hw 105 rfl) (wd hw 106 rfl) (wd hw 107 rfl) (wd hw 108 rfl) (wd hw 109 rfl) (by decide) E_ pd6 [(.int (Int32.ofNat cs.length)), (.ref x)] [] rfl rfl rfl 0 (Nat.le_of_eq rfl) (CN.pay (W := 0) A62 (m_putS l Z a0 hw b v kb cap cs x t ds zc O2 P5 h0 n0 A62.old B F lat hcap hb gb gv nbv ntv) (wd hw 109 rfl) (wd hw 75 rfl) (by decide) (by decide)) (kc := 0) (ks := 0) (by decide) (by decide) (allS gv all0) (fun q => nomatch q) fun v63 T63 h63 L63 A63 K63 q63 => ?_
  have Q64 : Keep h0 h63 [b, v] := K0.trans K63 (allS (Or.inl (List.mem_of_getElem? (i := 1) rfl)) all0)
  obtain ⟨rfl, V63⟩ := q63
  show Wp pG e below _ T63 (mkF m 33 _ [])
  refine f_aloadN A63 d15_33 (pc' := 34) rfl rfl rfl ?_
  refine f_dup A63 d15_34 (pc' := 35) rfl rfl ?_
  have c66 := (Fn_.keep K63 (ninS nbv nin0))
  refine f_getF A63 d15_35 (pc' := 38) rfl (host := "") (Or.inl (wd hw 98 rfl)) Via.refl c66 fun T65 A65 => ?_
  refine f_iloadN A65 d15_38 (pc' := 39) rfl rfl ?_
  refine f_iadd A65 d15_39 (pc' := 40) rfl (Int32.ofNat (cs ++ ds).length) (by rw [ofn_add (by omega), List.length_append]) ?_
  have c68 := (E_.keep K63)
  refine f_putF A65 (.int (Int32.ofNat (cs ++ ds).length)) d15_40 (pc' := 43) rfl (wd hw 98 rfl) Via.refl c66 c68 (Or.inl (wd hw 99 rfl)) (wd hw 66 rfl) (ty := .int) (by decide) rfl rfl gb (fun q => nomatch q) fun T67 h67 A67 W67 K67 X67 F67 => ?_
  have c69 := (Fv_.keep K63 (ninS nbv nin0))
  have c70 := (Fc_.keep K63 (ninS nbv nin0))
  have Q71 : Keep h0 h67 [b, v] := Q64.trans K67 (allS (Or.inl (List.mem_of_getElem? (i := 0) rfl)) all0)
  refine f_aloadN A67 d15_43 (pc' := 44) rfl rfl rfl ?_
  have c72 := (V63.keep K67 (ninS (Ne.symm nbv) nin0))
  have c73 := ((Ev_.keep K63).keep K67)
  exact f_retRN A67 hlk hret d15_44 rfl rfl (by decide) (by decide) Q71 ⟨rfl, X67, (c69.other W67 (Or.inr (slot_ne (Or.inl (wd hw 80 rfl)) (Or.inl (wd hw 99 rfl)) (by decide) (t := (.array .byte)) (t' := .int) (by decide) (by decide)))), (c70.other W67 (Or.inr (slot_ne (Or.inl (wd hw 82 rfl)) (Or.inl (wd hw 99 rfl)) (by decide) (t := .byte) (t' := .int) (by decide) (by decide)))), F67, c72, c73⟩
theorem d14_0 : decode jdk_67_method_7_code 0 = .ok (.aload_n 0, 1) := by decide +kernel
theorem d14_1 : decode jdk_67_method_7_code 1 = .ok (.aload_n 1, 1) := by decide +kernel
theorem d14_2 : decode jdk_67_method_7_code 2 = .ok (.invokespecial 29, 3) := by decide +kernel
theorem pd7 : parseMethodDescriptor "(Ljava/lang/String;)Ljava/lang/AbstractStringBuilder;" = some ⟨[(.object "java/lang/String")], some (.object "java/lang/AbstractStringBuilder")⟩ := by decide +kernel
theorem d14_5 : decode jdk_67_method_7_code 5 = .ok (.pop, 1) := by decide +kernel
theorem d14_6 : decode jdk_67_method_7_code 6 = .ok (.aload_n 0, 1) := by decide +kernel
theorem d14_7 : decode jdk_67_method_7_code 7 = .ok (.areturn, 1) := by decide +kernel
set_option maxRecDepth 65536 in
set_option maxHeartbeats 40000000 in
theorem m_sbA (l : Launch) (Z : State) (a0 : Array Value) (hw : ∀ d ∈ tables_1, d.before a0 Z = true) (b v : Addr) (kb : ClassId) (cap : Nat) (cs : List Int32) (x t : Addr) (ds : List Int32) (zc : Int32) (O2 : Sta Z Z.heap "java/lang/String" "COMPACT_STRINGS" "Z" (.int zc)) (P5 : ¬ zc = 0) (h0 : Heap) (n0 : Nat) (ho : Old Z n0 h0) (B : SBd Z h0 b v kb cap cs) (F : Str Z h0 x t ds) (lat : ∀ c ∈ ds, ¬ (255 : Int32) < c) (hcap : cs.length + ds.length ≤ cap) (hb : cap < 2147483648) (gb : n0 ≤ b) (gv : n0 ≤ v) (nbv : b ≠ v) (ntv : t ≠ v) :
    CN l (⟨"java/lang/StringBuilder", "append", "(Ljava/lang/String;)Ljava/lang/StringBuilder;"⟩ : MethodName) jdk_67_method_7_code 2 (some (.object "java/lang/StringBuilder")) [] ({ frames := 5, cells := 0, slots := 0, locals := 140 } : Room) Z n0 h0 #[(.ref b), (.ref x)] [b, v] (fun r h => r = some (.ref b) ∧ SBd Z h b v kb cap (cs ++ ds)) := by
  refine CN.walk (plainFor_of_name pn2) ho (L0 := #[.val (.ref b), .val (.ref x)]) (fun m => rfl) ?_
  intro pG e s m below meth cO T hlk hret hnm A0
  have K0 : Keep h0 h0 [b, v] := Keep.refl _ _
  refine f_aloadN A0 d14_0 (pc' := 1) rfl rfl rfl ?_
  refine f_aloadN A0 d14_1 (pc' := 2) rfl rfl rfl ?_
  refine f_callU A0 (a := b) d14_2 (pc' := 5) rfl (wd hw 88 rfl) (nfOf (wd hw 103 rfl) rfl) (by decide) (wd hw 89 rfl) (wd hw 90 rfl) (wd hw 92 rfl) (by decide) B.1 pd7 [(.ref x)] [] rfl rfl rfl 0 (Nat.le_of_eq rfl) (CN.pay (W := 0) A0 (m_asbA l Z a0 hw b v kb cap cs x t ds zc O2 P5 h0 n0 A0.old B F lat hcap hb gb gv nbv ntv) (wd hw 92 rfl) (wd hw 75 rfl) (by decide) (by decide)) (kc := 0) (ks := 0) (by decide) (by decide) (allS gb (allS gv all0)) (fun q => nomatch q) fun v74 T74 h74 L74 A74 K74 q74 => ?_
  have Q75 : Keep h0 h74 [b, v] := K0.trans K74 (allS (Or.inl (List.mem_of_getElem? (i := 0) rfl)) (allS (Or.inl (List.mem_of_getElem? (i := 1) rfl)) all0))
  obtain ⟨rfl, B2⟩ := q74
  show Wp pG e below _ T74 (mkF m 5 _ [(.ref b)])
  refine f_pop A74 d14_5 (pc' := 6) rfl rfl ?_
  refine f_aloadN A74 d14_6 (pc' := 7) rfl rfl rfl ?_
  exact f_retRN A74 hlk hret d14_7 rfl rfl (by decide) (by decide) Q75 ⟨rfl, B2⟩
theorem d31_0 : decode jdk_29_method_69_code 0 = .ok (.iload_n 0, 1) := by decide +kernel
theorem d31_1 : decode jdk_29_method_69_code 1 = .ok (.iload_n 1, 1) := by decide +kernel
theorem d31_2 : decode jdk_29_method_69_code 2 = .ok (.if_icmp .gt 7, 3) := by decide +kernel
theorem d31_9 : decode jdk_29_method_69_code 9 = .ok (.iload_n 1, 1) := by decide +kernel
theorem d31_10 : decode jdk_29_method_69_code 10 = .ok (.ireturn, 1) := by decide +kernel
theorem d31_5 : decode jdk_29_method_69_code 5 = .ok (.iload_n 0, 1) := by decide +kernel
theorem d31_6 : decode jdk_29_method_69_code 6 = .ok (.goto 4, 3) := by decide +kernel
set_option maxRecDepth 65536 in
set_option maxHeartbeats 40000000 in
theorem m_min (l : Launch) (Z : State) (a0 : Array Value) (hw : ∀ d ∈ tables_1, d.before a0 Z = true) (a b : Int32) (h0 : Heap) (n0 : Nat) (ho : Old Z n0 h0)  :
    CN l (⟨"java/lang/Math", "min", "(II)I"⟩ : MethodName) jdk_29_method_69_code 2 (some .int) [] ({ frames := 0, cells := 0, slots := 0, locals := 0 } : Room) Z n0 h0 #[(.int a), (.int b)] [] (fun v h => v = some (.int (if b < a then b else a)) ∧ h = h0) := by
  refine CN.walk (Jvm.Free.JP.mathPlain rfl (by decide +kernel)) ho (L0 := #[.val (.int a), .val (.int b)]) (fun m => rfl) ?_
  intro pG e s m below meth cO T hlk hret hnm A0
  have K0 : Keep h0 h0 [] := Keep.refl _ _
  refine f_iloadN A0 d31_0 (pc' := 1) rfl rfl ?_
  refine f_iloadN A0 d31_1 (pc' := 2) rfl rfl ?_
  by_cases q : b < a
  · refine f_icY A0 d31_2 (tlt q).2.2.1 (pc' := 9) (by decide) (by decide) ?_
    refine f_iloadN A0 d31_9 (pc' := 10) rfl rfl ?_
    exact f_retIN A0 hlk hret d31_10 (by decide) (by decide) K0 ⟨by rw [if_pos q], rfl⟩
  · refine f_icN A0 d31_2 (flt q).2.2.1 (pc' := 5) rfl ?_
    refine f_iloadN A0 d31_5 (pc' := 6) rfl rfl ?_
    refine f_goto A0 d31_6 (pc' := 10) (by decide) (by decide) ?_
    exact f_retIN A0 hlk hret d31_10 (by decide) (by decide) K0 ⟨by rw [if_neg q], rfl⟩
theorem pn3 : plainName "java/util/Arrays" = true := by first | (simp [plainName, overriddenIn]; done) | decide +kernel
theorem d30_0 : decode jdk_65_method_131_code 0 = .ok (.iload_n 1, 1) := by decide +kernel
theorem d30_1 : decode jdk_65_method_131_code 1 = .ok (.iload_n 0, 1) := by decide +kernel
theorem d30_2 : decode jdk_65_method_131_code 2 = .ok (.if_icmp .ge 35, 3) := by decide +kernel
theorem d30_37 : decode jdk_65_method_131_code 37 = .ok (.return_, 1) := by decide +kernel
set_option maxRecDepth 65536 in
set_option maxHeartbeats 40000000 in
theorem m_chkL (l : Launch) (Z : State) (a0 : Array Value) (hw : ∀ d ∈ tables_1, d.before a0 Z = true) (n : Nat) (h0 : Heap) (n0 : Nat) (ho : Old Z n0 h0) (hn : n < 100000) :
    CN l (⟨"java/util/Arrays", "checkLength", "(II)V"⟩ : MethodName) jdk_65_method_131_code 2 none [] ({ frames := 0, cells := 0, slots := 0, locals := 0 } : Room) Z n0 h0 #[(.int (0 : Int32)), (.int (Int32.ofNat n))] [] (fun r h => r = none ∧ h = h0) := by
  refine CN.walk (plainFor_of_name pn3) ho (L0 := #[.val (.int (0 : Int32)), .val (.int (Int32.ofNat n))]) (fun m => rfl) ?_
  intro pG e s m below meth cO T hlk hret hnm A0
  have K0 : Keep h0 h0 [] := Keep.refl _ _
  refine f_iloadN A0 d30_0 (pc' := 1) rfl rfl ?_
  refine f_iloadN A0 d30_1 (pc' := 2) rfl rfl ?_
  refine f_icY A0 d30_2 (flt (ofn_nn (by omega))).2.1 (pc' := 37) (by decide) (by decide) ?_
  exact f_retN A0 hlk hret d30_37 (by decide) (by decide) K0 ⟨rfl, rfl⟩
theorem d29_0 : decode jdk_65_method_133_code 0 = .ok (.iload_n 1, 1) := by decide +kernel
theorem d29_1 : decode jdk_65_method_133_code 1 = .ok (.iload_n 2, 1) := by decide +kernel
theorem d29_2 : decode jdk_65_method_133_code 2 = .ok (.invokestatic 343, 3) := by decide +kernel
theorem pd8 : parseMethodDescriptor "(II)V" = some ⟨[.int, .int], none⟩ := by decide +kernel
theorem d29_5 : decode jdk_65_method_133_code 5 = .ok (.iload_n 2, 1) := by decide +kernel
theorem d29_6 : decode jdk_65_method_133_code 6 = .ok (.iload_n 1, 1) := by decide +kernel
theorem d29_7 : decode jdk_65_method_133_code 7 = .ok (.isub, 1) := by decide +kernel
theorem d29_8 : decode jdk_65_method_133_code 8 = .ok (.istore_n 3, 1) := by decide +kernel
theorem d29_9 : decode jdk_65_method_133_code 9 = .ok (.iload_n 3, 1) := by decide +kernel
theorem d29_10 : decode jdk_65_method_133_code 10 = .ok (.newarray .byte, 2) := by decide +kernel
theorem d29_12 : decode jdk_65_method_133_code 12 = .ok (.astore 4, 2) := by decide +kernel
theorem d29_14 : decode jdk_65_method_133_code 14 = .ok (.aload_n 0, 1) := by decide +kernel
theorem d29_15 : decode jdk_65_method_133_code 15 = .ok (.iload_n 1, 1) := by decide +kernel
theorem d29_16 : decode jdk_65_method_133_code 16 = .ok (.aload 4, 2) := by decide +kernel
theorem d29_18 : decode jdk_65_method_133_code 18 = .ok (.iconst 0, 1) := by decide +kernel
theorem d29_19 : decode jdk_65_method_133_code 19 = .ok (.aload_n 0, 1) := by decide +kernel
theorem d29_20 : decode jdk_65_method_133_code 20 = .ok (.arraylength, 1) := by decide +kernel
theorem d29_21 : decode jdk_65_method_133_code 21 = .ok (.iload_n 1, 1) := by decide +kernel
theorem d29_22 : decode jdk_65_method_133_code 22 = .ok (.isub, 1) := by decide +kernel
theorem d29_23 : decode jdk_65_method_133_code 23 = .ok (.iload_n 3, 1) := by decide +kernel
theorem d29_24 : decode jdk_65_method_133_code 24 = .ok (.invokestatic 304, 3) := by decide +kernel
theorem pd9 : parseMethodDescriptor "(II)I" = some ⟨[.int, .int], some .int⟩ := by decide +kernel
theorem d29_27 : decode jdk_65_method_133_code 27 = .ok (.invokestatic 150, 3) := by decide +kernel
theorem d29_30 : decode jdk_65_method_133_code 30 = .ok (.aload 4, 2) := by decide +kernel
theorem d29_32 : decode jdk_65_method_133_code 32 = .ok (.areturn, 1) := by decide +kernel
set_option maxRecDepth 65536 in
set_option maxHeartbeats 40000000 in
theorem m_corb (l : Launch) (Z : State) (a0 : Array Value) (hw : ∀ d ∈ tables_1, d.before a0 Z = true) (v : Addr) (kb : ClassId) (cap : Nat) (cs : List Int32) (h0 : Heap) (n0 : Nat) (ho : Old Z n0 h0) (V : Arv Z h0 v kb .byte (Int32.ofNat cap) (pad cap cs) (.int 0)) (hlt : cs.length < cap) (hb : cap < 100000) (hcl : cs.length ≤ 64) :
    CN l (⟨"java/util/Arrays", "copyOfRangeByte", "([BII)[B"⟩ : MethodName) jdk_65_method_133_code 5 (some (.array .byte)) [] ({ frames := 1, cells := 1, slots := 64, locals := 60 } : Room) Z n0 h0 #[(.ref v), (.int (0 : Int32)), (.int (Int32.ofNat cs.length))] [] (fun r h => ∃ (t : Addr) (kt : ClassId), r = some (.ref t) ∧ h0.size ≤ t ∧ Arv Z h t kt .byte (Int32.ofNat cs.length) (cs.map fun c => Value.int (StrChars.lo8 c)) (.int 0)) := by
  refine CN.walk (plainFor_of_name pn3) ho (L0 := #[.val (.ref v), .val (.int (0 : Int32)), .val (.int (Int32.ofNat cs.length)), .unset, .unset]) (fun m => rfl) ?_
  intro pG e s m below meth cO T hlk hret hnm A0
  have K0 : Keep h0 h0 [] := Keep.refl _ _
  refine f_iloadN A0 d29_0 (pc' := 1) rfl rfl ?_
  refine f_iloadN A0 d29_1 (pc' := 2) rfl rfl ?_
  refine f_callS A0 d29_2 (pc' := 5) rfl (wd hw 162 rfl) (wd hw 163 rfl) (wd hw 157 rfl) (wd hw 164 rfl) (by decide) pd8 [(.int (0 : Int32)), (.int (Int32.ofNat cs.length))] [] rfl rfl rfl 0 (Nat.le_of_eq rfl) (CN.pay (W := 0) A0 (m_chkL l Z a0 hw _ h0 n0 A0.old (by omega)) (wd hw 164 rfl) (wd hw 157 rfl) (by decide) (by decide)) (kc := 0) (ks := 0) (by decide) (by decide) all0 (fun q => nomatch q) fun v76 T76 h76 L76 A76 K76 q76 => ?_
  obtain ⟨rfl, hh76⟩ := q76
  obtain rfl := hh76.symm
  show Wp pG e below _ T76 (mkF m 5 _ [])
  refine f_iloadN A76 d29_5 (pc' := 6) rfl rfl ?_
  refine f_iloadN A76 d29_6 (pc' := 7) rfl rfl ?_
  refine f_isub A76 d29_7 (pc' := 8) rfl (Int32.ofNat cs.length) (by rw [show (0 : Int32) = Int32.ofNat 0 from rfl, ofn_sub (by omega) (by omega), Nat.sub_zero]) ?_
  refine f_istoreN A76 d29_8 (pc' := 9) rfl (L' := #[.val (.ref v), .val (.int (0 : Int32)), .val (.int (Int32.ofNat cs.length)), .val (.int (Int32.ofNat cs.length)), .unset]) rfl ?_
  refine f_iloadN A76 d29_9 (pc' := 10) rfl rfl ?_
  refine f_newP A76 64 d29_10 (pc' := 12) rfl (wd hw 19 rfl) (ofn_nn (by omega)) (by rw [ofn_clamp (by omega)]; exact hcl) (by decide) (by decide) (by decide) (ad := "[B") (by decide) fun a77 T77 h77 k77 g77 A77 E77 F77 X77 => ?_
  have z77 : n0 ≤ a77 := Nat.le_trans A76.sz (Nat.le_of_eq g77.symm)
  have y77 : h0.size ≤ a77 := Nat.le_trans K0.1 (Nat.le_of_eq g77.symm)
  have Q78 : Keep h0 h77 [] := K0.ext E77
  have V77 := F77
  refine f_astore A77 d29_12 (pc' := 14) rfl rfl (L' := #[.val (.ref v), .val (.int (0 : Int32)), .val (.int (Int32.ofNat cs.length)), .val (.int (Int32.ofNat cs.length)), .val (.ref a77)]) rfl ?_
  refine f_aloadN A77 d29_14 (pc' := 15) rfl rfl rfl ?_
  refine f_iloadN A77 d29_15 (pc' := 16) rfl rfl ?_
  refine f_aload A77 d29_16 (pc' := 18) rfl rfl rfl ?_
  refine f_iconst A77 d29_18 (pc' := 19) rfl 0 rfl ?_
  refine f_aloadN A77 d29_19 (pc' := 20) rfl rfl rfl ?_
  have c79 := (V.ext E77)
  refine f_arraylength A77 d29_20 (pc' := 21) rfl c79 ?_
  refine f_iloadN A77 d29_21 (pc' := 22) rfl rfl ?_
  refine f_isub A77 d29_22 (pc' := 23) rfl (Int32.ofNat cap) (by rw [show (0 : Int32) = Int32.ofNat 0 from rfl, ofn_sub (by omega) (by omega), Nat.sub_zero]) ?_
  refine f_iloadN A77 d29_23 (pc' := 24) rfl rfl ?_
  refine f_callS A77 d29_24 (pc' := 27) rfl (wd hw 165 rfl) (wd hw 166 rfl) (wd hw 167 rfl) (wd hw 168 rfl) (by decide) pd9 [(.int (Int32.ofNat cap)), (.int (Int32.ofNat cs.length))] [(.int (0 : Int32)), (.ref a77), (.int (0 : Int32)), (.ref v)] rfl rfl rfl 4 (Nat.le_of_eq rfl) (CN.pay (W := 4) A77 (m_min l Z a0 hw (Int32.ofNat cap) (Int32.ofNat cs.length) h77 n0 A77.old) (wd hw 168 rfl) (wd hw 167 rfl) (by decide) (by decide)) (kc := 0) (ks := 0) (by decide) (by decide) all0 (fun q => nomatch q) fun v80 T80 h80 L80 A80 K80 q80 => ?_
  obtain ⟨e80, hh80⟩ := q80
  obtain rfl := hh80.symm
  rw [if_pos ((ofn_lt (by omega) (by omega)).mpr hlt)] at e80
  subst e80
  show Wp pG e below _ T80 (mkF m 27 _ [(.int (Int32.ofNat cs.length)), (.int (0 : Int32)), (.ref a77), (.int (0 : Int32)), (.ref v)])
  refine f_arrcpy A80 0 d29_27 (pc' := 30) rfl (wd hw 169 rfl) (wd hw 124 rfl) (wd hw 122 rfl) (wd hw 123 rfl) c79 (V77.pad (pad_rep [] (.int 0) cs.length)) (Or.inl ⟨rfl, rfl⟩) (by decide) (by decide) (ofn_nn (by omega)) (by rw [ofn_clamp (by omega), ofn_clamp (by omega)]; show 0 + _ ≤ _; omega) (by rw [ofn_clamp (by omega)]; exact Nat.le_of_eq (Nat.zero_add _)) (us := (cs.map fun c => Value.int (StrChars.lo8 c))) (by rw [ofn_clamp (by omega)]; exact (rng_pad (by omega)).symm) (by rw [ofn_clamp (by omega)]; show 0 + _ ≤ _; simp) (vd' := (cs.map fun c => Value.int (StrChars.lo8 c))) (by rw [ofn_clamp (by omega)]; show List.take 0 _ ++ _ ++ List.drop (0 + _) _ = _; simp) z77 (fun q => nomatch q) rfl (by decide) (Nat.le_of_eq rfl) (by decide) fun T81 h81 L81 A81 K81 V81 => ?_
  have Q82 : Keep h0 h81 [] := Q78.trans K81 (allS (Or.inr y77) all0)
  refine f_aload A81 d29_30 (pc' := 32) rfl rfl rfl ?_
  exact f_retRN A81 hlk hret d29_32 rfl rfl (by decide) (by decide) Q82 ⟨a77, k77, rfl, y77, V81⟩
theorem d28_0 : decode jdk_65_method_132_code 0 = .ok (.iload_n 1, 1) := by decide +kernel
theorem d28_1 : decode jdk_65_method_132_code 1 = .ok (.ifCond .ne 9, 3) := by decide +kernel
theorem d28_4 : decode jdk_65_method_132_code 4 = .ok (.iload_n 2, 1) := by decide +kernel
theorem d28_5 : decode jdk_65_method_132_code 5 = .ok (.aload_n 0, 1) := by decide +kernel
theorem d28_6 : decode jdk_65_method_132_code 6 = .ok (.arraylength, 1) := by decide +kernel
theorem d28_7 : decode jdk_65_method_132_code 7 = .ok (.if_icmp .eq 10, 3) := by decide +kernel
theorem d28_10 : decode jdk_65_method_132_code 10 = .ok (.aload_n 0, 1) := by decide +kernel
theorem d28_11 : decode jdk_65_method_132_code 11 = .ok (.iload_n 1, 1) := by decide +kernel
theorem d28_12 : decode jdk_65_method_132_code 12 = .ok (.iload_n 2, 1) := by decide +kernel
theorem d28_13 : decode jdk_65_method_132_code 13 = .ok (.invokestatic 339, 3) := by decide +kernel
theorem pd10 : parseMethodDescriptor "([BII)[B" = some ⟨[(.array .byte), .int, .int], some (.array .byte)⟩ := by decide +kernel
theorem d28_16 : decode jdk_65_method_132_code 16 = .ok (.areturn, 1) := by decide +kernel
set_option maxRecDepth 65536 in
set_option maxHeartbeats 40000000 in
theorem m_cor (l : Launch) (Z : State) (a0 : Array Value) (hw : ∀ d ∈ tables_1, d.before a0 Z = true) (v : Addr) (kb : ClassId) (cap : Nat) (cs : List Int32) (h0 : Heap) (n0 : Nat) (ho : Old Z n0 h0) (V : Arv Z h0 v kb .byte (Int32.ofNat cap) (pad cap cs) (.int 0)) (Xv : Exa Z h0 v "[B") (hlt : cs.length < cap) (hb : cap < 100000) (hcl : cs.length ≤ 64) :
    CN l (⟨"java/util/Arrays", "copyOfRange", "([BII)[B"⟩ : MethodName) jdk_65_method_132_code 3 (some (.array .byte)) [] ({ frames := 2, cells := 1, slots := 64, locals := 80 } : Room) Z n0 h0 #[(.ref v), (.int (0 : Int32)), (.int (Int32.ofNat cs.length))] [] (fun r h => ∃ (t : Addr) (kt : ClassId), r = some (.ref t) ∧ h0.size ≤ t ∧ Arv Z h t kt .byte (Int32.ofNat cs.length) (cs.map fun c => Value.int (StrChars.lo8 c)) (.int 0)) := by
  refine CN.walk (plainFor_of_name pn3) ho (L0 := #[.val (.ref v), .val (.int (0 : Int32)), .val (.int (Int32.ofNat cs.length))]) (fun m => rfl) ?_
  intro pG e s m below meth cO T hlk hret hnm A0
  have K0 : Keep h0 h0 [] := Keep.refl _ _
  refine f_iloadN A0 d28_0 (pc' := 1) rfl rfl ?_
  refine f_ifN A0 d28_1 ((if0 _ _).trans (teq (by decide : (0 : Int32) = (0 : Int32))).2) (pc' := 4) rfl ?_
  refine f_iloadN A0 d28_4 (pc' := 5) rfl rfl ?_
  refine f_aloadN A0 d28_5 (pc' := 6) rfl rfl rfl ?_
  refine f_arraylength A0 d28_6 (pc' := 7) rfl V ?_
  refine f_icN A0 d28_7 (feq (fun q => by have q2 := congrArg Int32.toInt q; rw [ofn (by omega), ofn (by omega)] at q2; omega)).1 (pc' := 10) rfl ?_
  refine f_aloadN A0 d28_10 (pc' := 11) rfl rfl rfl ?_
  refine f_iloadN A0 d28_11 (pc' := 12) rfl rfl ?_
  refine f_iloadN A0 d28_12 (pc' := 13) rfl rfl ?_
  refine f_callS A0 d28_13 (pc' := 16) rfl (wd hw 159 rfl) (wd hw 160 rfl) (wd hw 157 rfl) (wd hw 161 rfl) (by decide) pd10 [(.ref v), (.int (0 : Int32)), (.int (Int32.ofNat cs.length))] [] rfl rfl rfl 0 (Nat.le_of_eq rfl) (CN.pay (W := 0) A0 (m_corb l Z a0 hw v kb cap cs h0 n0 A0.old V hlt hb hcl) (wd hw 161 rfl) (wd hw 157 rfl) (by decide) (by decide)) (kc := 1) (ks := 64) (by decide) (by decide) all0 (fun q => nomatch q) fun v83 T83 h83 L83 A83 K83 q83 => ?_
  have Q84 : Keep h0 h83 [] := K0.trans K83 all0
  obtain ⟨t, kt, rfl, gt, Tv83⟩ := q83
  show Wp pG e below _ T83 (mkF m 16 _ [(.ref t)])
  exact f_retRN A83 hlk hret d28_16 rfl rfl (by decide) (by decide) Q84 ⟨t, kt, rfl, (Nat.le_trans K0.1 gt), Tv83⟩
theorem d24_0 : decode jdk_68_method_64_code 0 = .ok (.aload_n 0, 1) := by decide +kernel
theorem d24_1 : decode jdk_68_method_64_code 1 = .ok (.getfield 15, 3) := by decide +kernel
theorem d24_4 : decode jdk_68_method_64_code 4 = .ok (.areturn, 1) := by decide +kernel
set_option maxRecDepth 65536 in
set_option maxHeartbeats 40000000 in
theorem m_gv (l : Launch) (Z : State) (a0 : Array Value) (hw : ∀ d ∈ tables_1, d.before a0 Z = true) (b v : Addr) (kb : ClassId) (cap : Nat) (cs : List Int32) (h0 : Heap) (n0 : Nat) (ho : Old Z n0 h0) (B : SBd Z h0 b v kb cap cs) :
    CN l (⟨"java/lang/AbstractStringBuilder", "getValue", "()[B"⟩ : MethodName) jdk_68_method_64_code 1 (some (.array .byte)) [] ({ frames := 0, cells := 0, slots := 0, locals := 0 } : Room) Z n0 h0 #[(.ref b)] [] (fun r h => r = some (.ref v) ∧ h = h0) := by
  refine CN.walk (plainFor_of_name pn1) ho (L0 := #[.val (.ref b)]) (fun m => rfl) ?_
  intro pG e s m below meth cO T hlk hret hnm A0
  have K0 : Keep h0 h0 [] := Keep.refl _ _
  obtain ⟨E_, Fv_, Fc_, Fn_, V_, Ev_⟩ := id B
  refine f_aloadN A0 d24_0 (pc' := 1) rfl rfl rfl ?_
  refine f_getF A0 d24_1 (pc' := 4) rfl (host := "") (Or.inl (wd hw 79 rfl)) Via.refl Fv_ fun T85 A85 => ?_
  exact f_retRN A85 hlk hret d24_4 rfl rfl (by decide) (by decide) K0 ⟨rfl, rfl⟩
theorem d26_0 : decode jdk_68_method_6_code 0 = .ok (.aload_n 0, 1) := by decide +kernel
theorem d26_1 : decode jdk_68_method_6_code 1 = .ok (.getfield 79, 3) := by decide +kernel
theorem d26_4 : decode jdk_68_method_6_code 4 = .ok (.ireturn, 1) := by decide +kernel
set_option maxRecDepth 65536 in
set_option maxHeartbeats 40000000 in
theorem m_asbL (l : Launch) (Z : State) (a0 : Array Value) (hw : ∀ d ∈ tables_1, d.before a0 Z = true) (b v : Addr) (kb : ClassId) (cap : Nat) (cs : List Int32) (h0 : Heap) (n0 : Nat) (ho : Old Z n0 h0) (B : SBd Z h0 b v kb cap cs) :
    CN l (⟨"java/lang/AbstractStringBuilder", "length", "()I"⟩ : MethodName) jdk_68_method_6_code 1 (some .int) [] ({ frames := 0, cells := 0, slots := 0, locals := 0 } : Room) Z n0 h0 #[(.ref b)] [] (fun r h => r = some (.int (Int32.ofNat cs.length)) ∧ h = h0) := by
  refine CN.walk (plainFor_of_name pn1) ho (L0 := #[.val (.ref b)]) (fun m => rfl) ?_
  intro pG e s m below meth cO T hlk hret hnm A0
  have K0 : Keep h0 h0 [] := Keep.refl _ _
  obtain ⟨E_, Fv_, Fc_, Fn_, V_, Ev_⟩ := id B
  refine f_aloadN A0 d26_0 (pc' := 1) rfl rfl rfl ?_
  refine f_getF A0 d26_1 (pc' := 4) rfl (host := "") (Or.inl (wd hw 98 rfl)) Via.refl Fn_ fun T86 A86 => ?_
  exact f_retIN A86 hlk hret d26_4 (by decide) (by decide) K0 ⟨rfl, rfl⟩
theorem d25_0 : decode jdk_67_method_93_code 0 = .ok (.aload_n 0, 1) := by decide +kernel
theorem d25_1 : decode jdk_67_method_93_code 1 = .ok (.invokespecial 343, 3) := by decide +kernel
theorem d25_4 : decode jdk_67_method_93_code 4 = .ok (.ireturn, 1) := by decide +kernel
set_option maxRecDepth 65536 in
set_option maxHeartbeats 40000000 in
theorem m_sbL (l : Launch) (Z : State) (a0 : Array Value) (hw : ∀ d ∈ tables_1, d.before a0 Z = true) (b v : Addr) (kb : ClassId) (cap : Nat) (cs : List Int32) (h0 : Heap) (n0 : Nat) (ho : Old Z n0 h0) (B : SBd Z h0 b v kb cap cs) :
    CN l (⟨"java/lang/StringBuilder", "length", "()I"⟩ : MethodName) jdk_67_method_93_code 1 (some .int) [] ({ frames := 1, cells := 0, slots := 0, locals := 12 } : Room) Z n0 h0 #[(.ref b)] [] (fun r h => r = some (.int (Int32.ofNat cs.length)) ∧ h = h0) := by
  refine CN.walk (plainFor_of_name pn2) ho (L0 := #[.val (.ref b)]) (fun m => rfl) ?_
  intro pG e s m below meth cO T hlk hret hnm A0
  have K0 : Keep h0 h0 [] := Keep.refl _ _
  refine f_aloadN A0 d25_0 (pc' := 1) rfl rfl rfl ?_
  refine f_callU A0 (a := b) d25_1 (pc' := 4) rfl (wd hw 148 rfl) (nfOf (wd hw 103 rfl) rfl) (by decide) (wd hw 144 rfl) (wd hw 90 rfl) (wd hw 149 rfl) (by decide) B.1 pd5 [] [] rfl rfl rfl 0 (Nat.le_of_eq rfl) (CN.pay (W := 0) A0 (m_asbL l Z a0 hw b v kb cap cs h0 n0 A0.old B) (wd hw 149 rfl) (wd hw 75 rfl) (by decide) (by decide)) (kc := 0) (ks := 0) (by decide) (by decide) all0 (fun q => nomatch q) fun v87 T87 h87 L87 A87 K87 q87 => ?_
  obtain ⟨rfl, hh87⟩ := q87
  obtain rfl := hh87.symm
  show Wp pG e below _ T87 (mkF m 4 _ [(.int (Int32.ofNat cs.length))])
  exact f_retIN A87 hlk hret d25_4 (by decide) (by decide) K0 ⟨rfl, rfl⟩
theorem d27_0 : decode jdk_68_method_68_code 0 = .ok (.getstatic 18, 3) := by decide +kernel
theorem d27_3 : decode jdk_68_method_68_code 3 = .ok (.ifCond .eq 14, 3) := by decide +kernel
theorem d27_6 : decode jdk_68_method_68_code 6 = .ok (.aload_n 0, 1) := by decide +kernel
theorem d27_7 : decode jdk_68_method_68_code 7 = .ok (.getfield 22, 3) := by decide +kernel
theorem d27_10 : decode jdk_68_method_68_code 10 = .ok (.ifCond .ne 7, 3) := by decide +kernel
theorem d27_13 : decode jdk_68_method_68_code 13 = .ok (.iconst 1, 1) := by decide +kernel
theorem d27_14 : decode jdk_68_method_68_code 14 = .ok (.goto 4, 3) := by decide +kernel
theorem d27_18 : decode jdk_68_method_68_code 18 = .ok (.ireturn, 1) := by decide +kernel
set_option maxRecDepth 65536 in
set_option maxHeartbeats 40000000 in
theorem m_asbLat (l : Launch) (Z : State) (a0 : Array Value) (hw : ∀ d ∈ tables_1, d.before a0 Z = true) (b v : Addr) (kb : ClassId) (cap : Nat) (cs : List Int32) (zc : Int32) (O2 : Sta Z Z.heap "java/lang/String" "COMPACT_STRINGS" "Z" (.int zc)) (P5 : ¬ zc = 0) (h0 : Heap) (n0 : Nat) (ho : Old Z n0 h0) (B : SBd Z h0 b v kb cap cs) :
    CN l (⟨"java/lang/AbstractStringBuilder", "isLatin1", "()Z"⟩ : MethodName) jdk_68_method_68_code 1 (some .boolean) [] ({ frames := 0, cells := 0, slots := 0, locals := 0 } : Room) Z n0 h0 #[(.ref b)] [] (fun r h => r = some (.int 1) ∧ h = h0) := by
  refine CN.walk (plainFor_of_name pn1) ho (L0 := #[.val (.ref b)]) (fun m => rfl) ?_
  intro pG e s m below meth cO T hlk hret hnm A0
  have K0 : Keep h0 h0 [] := Keep.refl _ _
  obtain ⟨E_, Fv_, Fc_, Fn_, V_, Ev_⟩ := id B
  refine f_getS A0 d27_0 (pc' := 3) rfl (host := "") (Or.inl (wd hw 78 rfl)) Via.refl O2 fun T88 A88 => ?_
  refine f_ifN A88 d27_3 ((if0 _ _).trans (feq P5).1) (pc' := 6) rfl ?_
  refine f_aloadN A88 d27_6 (pc' := 7) rfl rfl rfl ?_
  refine f_getF A88 d27_7 (pc' := 10) rfl (host := "") (Or.inl (wd hw 81 rfl)) Via.refl Fc_ fun T89 A89 => ?_
  refine f_ifN A89 d27_10 ((if0 _ _).trans (teq (by decide : (0 : Int32) = (0 : Int32))).2) (pc' := 13) rfl ?_
  refine f_iconst A89 d27_13 (pc' := 14) rfl 1 rfl ?_
  refine f_goto A89 d27_14 (pc' := 18) (by decide) (by decide) ?_
  exact f_retBN A89 hlk hret d27_18 (by decide) (1 : Int32) (by decide) (by decide) (by decide) K0 ⟨rfl, rfl⟩
theorem d23_0 : decode jdk_42_method_150_code 0 = .ok (.aload_n 0, 1) := by decide +kernel
theorem d23_1 : decode jdk_42_method_150_code 1 = .ok (.invokespecial 1, 3) := by decide +kernel
theorem d23_4 : decode jdk_42_method_150_code 4 = .ok (.aload_n 1, 1) := by decide +kernel
theorem d23_5 : decode jdk_42_method_150_code 5 = .ok (.invokevirtual 552, 3) := by decide +kernel
theorem pd11 : parseMethodDescriptor "()[B" = some ⟨[], some (.array .byte)⟩ := by decide +kernel
theorem d23_8 : decode jdk_42_method_150_code 8 = .ok (.astore_n 3, 1) := by decide +kernel
theorem d23_9 : decode jdk_42_method_150_code 9 = .ok (.aload_n 1, 1) := by decide +kernel
theorem d23_10 : decode jdk_42_method_150_code 10 = .ok (.invokevirtual 549, 3) := by decide +kernel
theorem d23_13 : decode jdk_42_method_150_code 13 = .ok (.istore 4, 2) := by decide +kernel
theorem d23_15 : decode jdk_42_method_150_code 15 = .ok (.aload_n 1, 1) := by decide +kernel
theorem d23_16 : decode jdk_42_method_150_code 16 = .ok (.invokevirtual 1047, 3) := by decide +kernel
theorem pd12 : parseMethodDescriptor "()Z" = some ⟨[], some .boolean⟩ := by decide +kernel
theorem d23_19 : decode jdk_42_method_150_code 19 = .ok (.ifCond .eq 22, 3) := by decide +kernel
theorem d23_22 : decode jdk_42_method_150_code 22 = .ok (.aload_n 0, 1) := by decide +kernel
theorem d23_23 : decode jdk_42_method_150_code 23 = .ok (.iconst 0, 1) := by decide +kernel
theorem d23_24 : decode jdk_42_method_150_code 24 = .ok (.putfield 15, 3) := by decide +kernel
theorem d23_27 : decode jdk_42_method_150_code 27 = .ok (.aload_n 0, 1) := by decide +kernel
theorem d23_28 : decode jdk_42_method_150_code 28 = .ok (.aload_n 3, 1) := by decide +kernel
theorem d23_29 : decode jdk_42_method_150_code 29 = .ok (.iconst 0, 1) := by decide +kernel
theorem d23_30 : decode jdk_42_method_150_code 30 = .ok (.iload 4, 2) := by decide +kernel
theorem d23_32 : decode jdk_42_method_150_code 32 = .ok (.invokestatic 54, 3) := by decide +kernel
theorem d23_35 : decode jdk_42_method_150_code 35 = .ok (.putfield 9, 3) := by decide +kernel
theorem d23_38 : decode jdk_42_method_150_code 38 = .ok (.goto 59, 3) := by decide +kernel
theorem d23_97 : decode jdk_42_method_150_code 97 = .ok (.return_, 1) := by decide +kernel
set_option maxRecDepth 65536 in
set_option maxHeartbeats 40000000 in
theorem m_strA (l : Launch) (Z : State) (a0 : Array Value) (hw : ∀ d ∈ tables_1, d.before a0 Z = true) (x : Addr) (b v : Addr) (kb : ClassId) (cap : Nat) (cs : List Int32) (zc : Int32) (O2 : Sta Z Z.heap "java/lang/String" "COMPACT_STRINGS" "Z" (.int zc)) (P5 : ¬ zc = 0) (h0 : Heap) (n0 : Nat) (ho : Old Z n0 h0) (E : Exa Z h0 x "java/lang/String") (Vx : Fld Z h0 x "java/lang/String" "value" "[B" .null) (Cx : Fld Z h0 x "java/lang/String" "coder" "B" (.int 0)) (gx : n0 ≤ x) (nxb : x ≠ b) (nxv : x ≠ v) (B : SBd Z h0 b v kb cap cs) (hlt : cs.length < cap) (hb : cap < 100000) (hcl : cs.length ≤ 64) (lat : ∀ c ∈ cs, ¬ c < 0 ∧ ¬ (255 : Int32) < c) :
    CN l (⟨"java/lang/String", "<init>", "(Ljava/lang/AbstractStringBuilder;Ljava/lang/Void;)V"⟩ : MethodName) jdk_42_method_150_code 5 none [] ({ frames := 3, cells := 1, slots := 64, locals := 110 } : Room) Z n0 h0 #[(.ref x), (.ref b), .null] [x] (fun r h => r = none ∧ ∃ t : Addr, n0 ≤ t ∧ h0.size ≤ t ∧ ¬ t = x ∧ Str Z h x t cs) := by
  refine CN.walk (plainFor_of_name pn0) ho (L0 := #[.val (.ref x), .val (.ref b), .val .null, .unset, .unset]) (fun m => rfl) ?_
  intro pG e s m below meth cO T hlk hret hnm A0
  have K0 : Keep h0 h0 [x] := Keep.refl _ _
  obtain ⟨E_, Fv_, Fc_, Fn_, V_, Ev_⟩ := id B
  refine f_aloadN A0 d23_0 (pc' := 1) rfl rfl rfl ?_
  refine f_initO A0 (W := 0) d23_1 (pc' := 4) rfl (wd hw 15 rfl) (wd hw 16 rfl) (wd hw 17 rfl) rfl (by decide) (Nat.le_of_eq rfl) (by decide) fun T90 A90 => ?_
  refine f_aloadN A90 d23_4 (pc' := 5) rfl rfl rfl ?_
  refine f_callV A90 (a := b) d23_5 (pc' := 8) rfl (wd hw 137 rfl) (wd hw 138 rfl) (nfS A90 (wd hw 140 rfl)) (wd hw 140 rfl) (wd hw 139 rfl) (by decide) E_ pd11 [] [] rfl rfl rfl 0 (Nat.le_of_eq rfl) (CN.pay (W := 0) A90 (m_gv l Z a0 hw b v kb cap cs h0 n0 A90.old (B.keep (Keep.refl _ _) nin0 nin0)) (wd hw 141 rfl) (wd hw 75 rfl) (by decide) (by decide)) (kc := 0) (ks := 0) (by decide) (by decide) all0 (fun q => nomatch q) fun v91 T91 h91 L91 A91 K91 q91 => ?_
  obtain ⟨rfl, hh91⟩ := q91
  obtain rfl := hh91.symm
  show Wp pG e below _ T91 (mkF m 8 _ [(.ref v)])
  refine f_astoreN A91 d23_8 (pc' := 9) rfl rfl (L' := #[.val (.ref x), .val (.ref b), .val .null, .val (.ref v), .unset]) rfl ?_
  refine f_aloadN A91 d23_9 (pc' := 10) rfl rfl rfl ?_
  refine f_callV A91 (a := b) d23_10 (pc' := 13) rfl (wd hw 142 rfl) (wd hw 143 rfl) (nfT A91 (wd hw 103 rfl) rfl) (wd hw 145 rfl) (wd hw 146 rfl) (by decide) E_ pd5 [] [] rfl rfl rfl 0 (Nat.le_of_eq rfl) (CN.pay (W := 0) A91 (m_sbL l Z a0 hw b v kb cap cs h0 n0 A91.old (B.keep (Keep.refl _ _) nin0 nin0)) (wd hw 147 rfl) (wd hw 67 rfl) (by decide) (by decide)) (kc := 0) (ks := 0) (by decide) (by decide) all0 (fun q => nomatch q) fun v92 T92 h92 L92 A92 K92 q92 => ?_
  obtain ⟨rfl, hh92⟩ := q92
  obtain rfl := hh92.symm
  show Wp pG e below _ T92 (mkF m 13 _ [(.int (Int32.ofNat cs.length))])
  refine f_istore A92 d23_13 (pc' := 15) rfl (L' := #[.val (.ref x), .val (.ref b), .val .null, .val (.ref v), .val (.int (Int32.ofNat cs.length))]) rfl ?_
  refine f_aloadN A92 d23_15 (pc' := 16) rfl rfl rfl ?_
  refine f_callV A92 (a := b) d23_16 (pc' := 19) rfl (wd hw 150 rfl) (wd hw 151 rfl) (nfS A92 (wd hw 153 rfl)) (wd hw 153 rfl) (wd hw 152 rfl) (by decide) E_ pd12 [] [] rfl rfl rfl 0 (Nat.le_of_eq rfl) (CN.pay (W := 0) A92 (m_asbLat l Z a0 hw b v kb cap cs zc O2 P5 h0 n0 A92.old (B.keep (Keep.refl _ _) nin0 nin0)) (wd hw 154 rfl) (wd hw 75 rfl) (by decide) (by decide)) (kc := 0) (ks := 0) (by decide) (by decide) all0 (fun q => nomatch q) fun v93 T93 h93 L93 A93 K93 q93 => ?_
  obtain ⟨rfl, hh93⟩ := q93
  obtain rfl := hh93.symm
  show Wp pG e below _ T93 (mkF m 19 _ [(.int (1 : Int32))])
  refine f_ifN A93 d23_19 ((if0 _ _).trans (feq (by decide : ¬ (1 : Int32) = (0 : Int32))).1) (pc' := 22) rfl ?_
  refine f_aloadN A93 d23_22 (pc' := 23) rfl rfl rfl ?_
  refine f_iconst A93 d23_23 (pc' := 24) rfl 0 rfl ?_
  refine f_putF A93 (.int (0 : Int32)) d23_24 (pc' := 27) rfl (wd hw 25 rfl) Via.refl Cx E (Or.inr ⟨(wd hw 21 rfl), rfl, hnm⟩) (wd hw 5 rfl) (ty := .byte) (by decide) rfl (by decide) gx (fun q => nomatch q) fun T94 h94 A94 W94 K94 X94 F94 => ?_
  have Q95 : Keep h0 h94 [x] := K0.trans K94 (allS (Or.inl (List.mem_of_getElem? (i := 0) rfl)) all0)
  refine f_aloadN A94 d23_27 (pc' := 28) rfl rfl rfl ?_
  refine f_aloadN A94 d23_28 (pc' := 29) rfl rfl rfl ?_
  refine f_iconst A94 d23_29 (pc' := 30) rfl 0 rfl ?_
  refine f_iload A94 d23_30 (pc' := 32) rfl rfl ?_
  have c96 := (V_.keep K94 (ninS (Ne.symm nxv) nin0))
  have c97 := (Ev_.keep K94)
  refine f_callS A94 d23_32 (pc' := 35) rfl (wd hw 155 rfl) (wd hw 156 rfl) (wd hw 157 rfl) (wd hw 158 rfl) (by decide) pd10 [(.ref v), (.int (0 : Int32)), (.int (Int32.ofNat cs.length))] [(.ref x)] rfl rfl rfl 1 (Nat.le_of_eq rfl) (CN.pay (W := 1) A94 (m_cor l Z a0 hw v kb cap cs h94 n0 A94.old c96 c97 hlt hb hcl) (wd hw 158 rfl) (wd hw 157 rfl) (by decide) (by decide)) (kc := 1) (ks := 64) (by decide) (by decide) all0 (fun q => nomatch q) fun v98 T98 h98 L98 A98 K98 q98 => ?_
  have Q99 : Keep h0 h98 [x] := Q95.trans K98 all0
  obtain ⟨t, kt, rfl, gt, Tv98⟩ := q98
  show Wp pG e below _ T98 (mkF m 35 _ [(.ref t), (.ref x)])
  have c101 := ((Vx.other W94 (Or.inr (slot_ne (Or.inr (wd hw 20 rfl)) (Or.inr (wd hw 21 rfl)) (by decide) (t := (.array .byte)) (t' := .byte) (by decide) (by decide)))).keep K98 nin0)
  have c102 := (X94.keep K98)
  refine f_putF A98 (.ref t) d23_35 (pc' := 38) rfl (wd hw 24 rfl) Via.refl c101 c102 (Or.inr ⟨(wd hw 20 rfl), rfl, hnm⟩) (wd hw 5 rfl) (ty := (.array .byte)) (by decide) rfl rfl gx (fun q => nomatch q) fun T100 h100 A100 W100 K100 X100 F100 => ?_
  have c103 := (F94.keep K98 nin0)
  have Q104 : Keep h0 h100 [x] := Q99.trans K100 (allS (Or.inl (List.mem_of_getElem? (i := 0) rfl)) all0)
  refine f_goto A100 d23_38 (pc' := 97) (by decide) (by decide) ?_
  have c105 := (Tv98.keep K100 (ninS (Ne.symm (Nat.ne_of_lt (Nat.lt_of_lt_of_le (Nat.lt_of_lt_of_le E.lt K94.1) gt))) nin0))
  have G : Str Z h100 x t cs := ⟨X100, ⟨0, _, _, kt, F100, (c103.other W100 (Or.inr (slot_ne (Or.inr (wd hw 21 rfl)) (Or.inr (wd hw 20 rfl)) (by decide) (t := .byte) (t' := (.array .byte)) (by decide) (by decide)))), c105, Or.inl ⟨rfl, rfl, rfl, fun c hc => (lat c hc).2⟩⟩, fun c hc => ⟨(lat c hc).1, up8 (lat c hc).2⟩, by omega⟩
  exact f_retN A100 hlk hret d23_97 (by decide) (by decide) Q104 ⟨rfl, t, (Nat.le_trans A94.sz gt), (Nat.le_trans Q95.1 gt), (Ne.symm (Nat.ne_of_lt (Nat.lt_of_lt_of_le (Nat.lt_of_lt_of_le E.lt K94.1) gt))), G⟩
theorem d22_0 : decode jdk_42_method_53_code 0 = .ok (.aload_n 0, 1) := by decide +kernel
theorem d22_1 : decode jdk_42_method_53_code 1 = .ok (.aload_n 1, 1) := by decide +kernel
theorem d22_2 : decode jdk_42_method_53_code 2 = .ok (.aconst_null, 1) := by decide +kernel
theorem d22_3 : decode jdk_42_method_53_code 3 = .ok (.invokespecial 489, 3) := by decide +kernel
theorem pd13 : parseMethodDescriptor "(Ljava/lang/AbstractStringBuilder;Ljava/lang/Void;)V" = some ⟨[(.object "java/lang/AbstractStringBuilder"), (.object "java/lang/Void")], none⟩ := by decide +kernel
theorem d22_6 : decode jdk_42_method_53_code 6 = .ok (.return_, 1) := by decide +kernel
set_option maxRecDepth 65536 in
set_option maxHeartbeats 40000000 in
theorem m_strB (l : Launch) (Z : State) (a0 : Array Value) (hw : ∀ d ∈ tables_1, d.before a0 Z = true) (x : Addr) (b v : Addr) (kb : ClassId) (cap : Nat) (cs : List Int32) (zc : Int32) (O2 : Sta Z Z.heap "java/lang/String" "COMPACT_STRINGS" "Z" (.int zc)) (P5 : ¬ zc = 0) (h0 : Heap) (n0 : Nat) (ho : Old Z n0 h0) (E : Exa Z h0 x "java/lang/String") (Vx : Fld Z h0 x "java/lang/String" "value" "[B" .null) (Cx : Fld Z h0 x "java/lang/String" "coder" "B" (.int 0)) (gx : n0 ≤ x) (nxb : x ≠ b) (nxv : x ≠ v) (B : SBd Z h0 b v kb cap cs) (hlt : cs.length < cap) (hb : cap < 100000) (hcl : cs.length ≤ 64) (lat : ∀ c ∈ cs, ¬ c < 0 ∧ ¬ (255 : Int32) < c) :
    CN l (⟨"java/lang/String", "<init>", "(Ljava/lang/StringBuilder;)V"⟩ : MethodName) jdk_42_method_53_code 2 none [] ({ frames := 4, cells := 1, slots := 64, locals := 130 } : Room) Z n0 h0 #[(.ref x), (.ref b)] [x] (fun r h => r = none ∧ ∃ t : Addr, n0 ≤ t ∧ h0.size ≤ t ∧ ¬ t = x ∧ Str Z h x t cs) := by
  refine CN.walk (plainFor_of_name pn0) ho (L0 := #[.val (.ref x), .val (.ref b)]) (fun m => rfl) ?_
  intro pG e s m below meth cO T hlk hret hnm A0
  have K0 : Keep h0 h0 [x] := Keep.refl _ _
  obtain ⟨E_, Fv_, Fc_, Fn_, V_, Ev_⟩ := id B
  refine f_aloadN A0 d22_0 (pc' := 1) rfl rfl rfl ?_
  refine f_aloadN A0 d22_1 (pc' := 2) rfl rfl rfl ?_
  refine f_aconst_null A0 d22_2 (pc' := 3) rfl ?_
  refine f_callI A0 (a := x) d22_3 (pc' := 6) rfl rfl (wd hw 134 rfl) (wd hw 135 rfl) (wd hw 136 rfl) (by decide) pd13 [(.ref b), .null] [] rfl rfl rfl 0 (Nat.le_of_eq rfl) (CN.pay (W := 0) A0 (m_strA l Z a0 hw x b v kb cap cs zc O2 P5 h0 n0 A0.old E Vx Cx gx nxb nxv B hlt hb hcl lat) (wd hw 136 rfl) (wd hw 6 rfl) (by decide) (by decide)) (kc := 1) (ks := 64) (by decide) (by decide) (allS gx all0) (fun q => nomatch q) fun v106 T106 h106 L106 A106 K106 q106 => ?_
  have Q107 : Keep h0 h106 [x] := K0.trans K106 (allS (Or.inl (List.mem_of_getElem? (i := 0) rfl)) all0)
  obtain ⟨rfl, t, tz, tg, tn, G⟩ := q106
  show Wp pG e below _ T106 (mkF m 6 _ [])
  exact f_retN A106 hlk hret d22_6 (by decide) (by decide) Q107 ⟨rfl, t, tz, tg, tn, G⟩
theorem d21_0 : decode jdk_67_method_42_code 0 = .ok (.new 18, 3) := by decide +kernel
theorem d21_3 : decode jdk_67_method_42_code 3 = .ok (.dup, 1) := by decide +kernel
theorem d21_4 : decode jdk_67_method_42_code 4 = .ok (.aload_n 0, 1) := by decide +kernel
theorem d21_5 : decode jdk_67_method_42_code 5 = .ok (.invokespecial 137, 3) := by decide +kernel
theorem pd14 : parseMethodDescriptor "(Ljava/lang/StringBuilder;)V" = some ⟨[(.object "java/lang/StringBuilder")], none⟩ := by decide +kernel
theorem d21_8 : decode jdk_67_method_42_code 8 = .ok (.areturn, 1) := by decide +kernel
set_option maxRecDepth 65536 in
set_option maxHeartbeats 40000000 in
theorem m_sbS (l : Launch) (Z : State) (a0 : Array Value) (hw : ∀ d ∈ tables_1, d.before a0 Z = true) (b v : Addr) (kb : ClassId) (cap : Nat) (cs : List Int32) (zc : Int32) (O2 : Sta Z Z.heap "java/lang/String" "COMPACT_STRINGS" "Z" (.int zc)) (P5 : ¬ zc = 0) (h0 : Heap) (n0 : Nat) (ho : Old Z n0 h0) (B : SBd Z h0 b v kb cap cs) (hlt : cs.length < cap) (hb : cap < 100000) (hcl : cs.length ≤ 64) (lat : ∀ c ∈ cs, ¬ c < 0 ∧ ¬ (255 : Int32) < c) :
    CN l (⟨"java/lang/StringBuilder", "toString", "()Ljava/lang/String;"⟩ : MethodName) jdk_67_method_42_code 1 (some (.object "java/lang/String")) [] ({ frames := 5, cells := 2, slots := 70, locals := 150 } : Room) Z n0 h0 #[(.ref b)] [] (fun r h => ∃ (x t : Addr), r = some (.ref x) ∧ n0 ≤ x ∧ h0.size ≤ x ∧ h0.size ≤ t ∧ Str Z h x t cs) := by
  refine CN.walk (plainFor_of_name pn2) ho (L0 := #[.val (.ref b)]) (fun m => rfl) ?_
  intro pG e s m below meth cO T hlk hret hnm A0
  have K0 : Keep h0 h0 [] := Keep.refl _ _
  obtain ⟨E_, Fv_, Fc_, Fn_, V_, Ev_⟩ := id B
  refine f_new A0 d21_0 (pc' := 3) rfl (wd hw 130 rfl) (wd hw 5 rfl) (wd hw 6 rfl) (by decide) (by decide) fun a108 T108 h108 g108 A108 E108 X108 D108 => ?_
  have z108 : n0 ≤ a108 := Nat.le_trans A0.sz (Nat.le_of_eq g108.symm)
  have y108 : h0.size ≤ a108 := Nat.le_trans K0.1 (Nat.le_of_eq g108.symm)
  have Q109 : Keep h0 h108 [] := K0.ext E108
  refine f_dup A108 d21_3 (pc' := 4) rfl rfl ?_
  refine f_aloadN A108 d21_4 (pc' := 5) rfl rfl rfl ?_
  have B110 : SBd Z h108 b v kb cap cs := B.ext E108
  refine f_callI A108 (a := a108) d21_5 (pc' := 8) rfl rfl (wd hw 131 rfl) (wd hw 132 rfl) (wd hw 133 rfl) (by decide) pd14 [(.ref b)] [(.ref a108)] rfl rfl rfl 1 (Nat.le_of_eq rfl) (CN.pay (W := 1) A108 (m_strB l Z a0 hw a108 b v kb cap cs zc O2 P5 h108 n0 A108.old X108 (show Fld Z h108 a108 "java/lang/String" "value" "[B" .null from D108 (Or.inr (wd hw 20 rfl)) (ty := (.array .byte)) (by decide)) (show Fld Z h108 a108 "java/lang/String" "coder" "B" (.int (0 : Int32)) from D108 (Or.inr (wd hw 21 rfl)) (ty := .byte) (by decide)) z108 (Ne.symm (Nat.ne_of_lt (Nat.lt_of_lt_of_le E_.lt (Nat.le_of_eq g108.symm)))) (Ne.symm (Nat.ne_of_lt (Nat.lt_of_lt_of_le V_.lt (Nat.le_of_eq g108.symm)))) B110 hlt hb hcl lat) (wd hw 133 rfl) (wd hw 6 rfl) (by decide) (by decide)) (kc := 1) (ks := 64) (by decide) (by decide) (allS z108 all0) (fun q => nomatch q) fun v111 T111 h111 L111 A111 K111 q111 => ?_
  have Q112 : Keep h0 h111 [] := Q109.trans K111 (allS (Or.inr y108) all0)
  obtain ⟨rfl, t111, tz111, tg111, tn111, G111⟩ := q111
  show Wp pG e below _ T111 (mkF m 8 _ [(.ref a108)])
  exact f_retRN A111 hlk hret d21_8 rfl rfl (by decide) (by decide) Q112 ⟨a108, t111, rfl, z108, y108, (Nat.le_trans Q109.1 tg111), G111⟩
def chW (b i : Int32) : Int32 := ((b.toUInt32 >>> ((10 * i) &&& 31).toUInt32).toInt32) &&& 1023
def chV (b i : Int32) : Int32 := if chW b i &&& 3 = 0 then 46 else ((chW b i).toUInt32 >>> ((2 : Int32) &&& 31).toUInt32).toInt32
theorem ch_w (b i : Int32) : 0 ≤ (((chW b i).toUInt32 >>> ((2 : Int32) &&& 31).toUInt32).toInt32).toInt ∧ (((chW b i).toUInt32 >>> ((2 : Int32) &&& 31).toUInt32).toInt32).toInt ≤ 255 := by
  rw [c_iushr _ 2 2 (by decide) (by decide)]; have q := c_and ((b.toUInt32 >>> ((10 * i) &&& 31).toUInt32).toInt32) 1023 (by decide); have e : (1023 : Int32).toInt = 1023 := rfl; unfold chW; omega
theorem ch_rng (b i : Int32) : 0 ≤ (chV b i).toInt ∧ (chV b i).toInt ≤ 255 := by
  unfold chV; split
  · decide
  · exact ch_w b i
def idxD : List Int32 → Int32 → Int32
  | [], _ => -1
  | c :: cs, i => if c = 46 then i else idxD cs (i + 1)
theorem lo46 {c : Int32} (q : ¬ c < 0 ∧ ¬ (255 : Int32) < c) : StrChars.lo8 c = 46 ↔ c = 46 := by
  have r := of_lat q; have b := c_i2b c; have l : (46 : Int32).toInt = 46 := rfl
  constructor
  · intro h; apply Int32.toInt_inj.mp; have h2 := congrArg Int32.toInt h; simp only [StrChars.lo8] at h2; omega
  · intro h; subst h; decide
theorem pn4 : plainName "com/example/mapwright/mapwright/config/MapperReaderQualifiedPinLaw" = true := by first | (simp [plainName, overriddenIn]; done) | decide +kernel
theorem d37_0 : decode method_3_code 0 = .ok (.iload_n 0, 1) := by decide +kernel
theorem d37_1 : decode method_3_code 1 = .ok (.bipush 10, 2) := by decide +kernel
theorem d37_3 : decode method_3_code 3 = .ok (.iload_n 1, 1) := by decide +kernel
theorem d37_4 : decode method_3_code 4 = .ok (.imul, 1) := by decide +kernel
theorem d37_5 : decode method_3_code 5 = .ok (.iushr, 1) := by decide +kernel
theorem d37_6 : decode method_3_code 6 = .ok (.sipush 1023, 3) := by decide +kernel
theorem d37_9 : decode method_3_code 9 = .ok (.iand, 1) := by decide +kernel
theorem d37_10 : decode method_3_code 10 = .ok (.istore_n 2, 1) := by decide +kernel
theorem d37_11 : decode method_3_code 11 = .ok (.iload_n 2, 1) := by decide +kernel
theorem d37_12 : decode method_3_code 12 = .ok (.iconst 3, 1) := by decide +kernel
theorem d37_13 : decode method_3_code 13 = .ok (.iand, 1) := by decide +kernel
theorem d37_14 : decode method_3_code 14 = .ok (.ifCond .ne 6, 3) := by decide +kernel
theorem d37_17 : decode method_3_code 17 = .ok (.bipush 46, 2) := by decide +kernel
theorem d37_19 : decode method_3_code 19 = .ok (.ireturn, 1) := by decide +kernel
theorem d37_20 : decode method_3_code 20 = .ok (.iload_n 2, 1) := by decide +kernel
theorem d37_21 : decode method_3_code 21 = .ok (.iconst 2, 1) := by decide +kernel
theorem d37_22 : decode method_3_code 22 = .ok (.iushr, 1) := by decide +kernel
theorem d37_23 : decode method_3_code 23 = .ok (.i2c, 1) := by decide +kernel
theorem d37_24 : decode method_3_code 24 = .ok (.ireturn, 1) := by decide +kernel
set_option maxRecDepth 65536 in
set_option maxHeartbeats 40000000 in
theorem m_ch (l : Launch) (Z : State) (a0 : Array Value) (hw : ∀ d ∈ tables_1, d.before a0 Z = true) (b i c : Int32) (h0 : Heap) (n0 : Nat) (ho : Old Z n0 h0) (hc : chV b i = c) :
    CN l (⟨"com/example/mapwright/mapwright/config/MapperReaderQualifiedPinLaw", "ch", "(II)C"⟩ : MethodName) method_3_code 3 (some .char) [] ({ frames := 0, cells := 0, slots := 0, locals := 0 } : Room) Z n0 h0 #[(.int b), (.int i)] [] (fun v h => v = some (.int c) ∧ h = h0) := by
  refine CN.walk (plainFor_of_name pn4) ho (L0 := #[.val (.int b), .val (.int i), .unset]) (fun m => rfl) ?_
  intro pG e s m below meth cO T hlk hret hnm A0
  have K0 : Keep h0 h0 [] := Keep.refl _ _
  refine f_iloadN A0 d37_0 (pc' := 1) rfl rfl ?_
  refine f_bipush A0 d37_1 (pc' := 3) rfl 10 rfl ?_
  refine f_iloadN A0 d37_3 (pc' := 4) rfl rfl ?_
  refine f_imul A0 d37_4 (pc' := 5) rfl ((10 : Int32) * i) rfl ?_
  refine f_iushr A0 d37_5 (pc' := 6) rfl ((b.toUInt32 >>> (((10 : Int32) * i) &&& 31).toUInt32).toInt32) rfl ?_
  refine f_sipush A0 d37_6 (pc' := 9) rfl 1023 rfl ?_
  refine f_iand A0 d37_9 (pc' := 10) rfl (chW b i) rfl ?_
  refine f_istoreN A0 d37_10 (pc' := 11) rfl (L' := #[.val (.int b), .val (.int i), .val (.int (chW b i))]) rfl ?_
  refine f_iloadN A0 d37_11 (pc' := 12) rfl rfl ?_
  refine f_iconst A0 d37_12 (pc' := 13) rfl 3 rfl ?_
  refine f_iand A0 d37_13 (pc' := 14) rfl ((chW b i) &&& (3 : Int32)) rfl ?_
  by_cases q : ((chW b i) &&& (3 : Int32)) = (0 : Int32)
  · refine f_ifN A0 d37_14 ((if0 _ _).trans (teq q).2) (pc' := 17) rfl ?_
    refine f_bipush A0 d37_17 (pc' := 19) rfl 46 rfl ?_
    exact f_retBN A0 hlk hret d37_19 (by decide) (46 : Int32) (by decide) (by decide) (by decide) K0 ⟨by rw [← hc, chV, if_pos q], rfl⟩
  · refine f_ifY A0 d37_14 ((if0 _ _).trans (feq q).2) (pc' := 20) (by decide) (by decide) ?_
    refine f_iloadN A0 d37_20 (pc' := 21) rfl rfl ?_
    refine f_iconst A0 d37_21 (pc' := 22) rfl 2 rfl ?_
    refine f_iushr A0 d37_22 (pc' := 23) rfl (((chW b i).toUInt32 >>> ((2 : Int32) &&& 31).toUInt32).toInt32) rfl ?_
    refine f_i2c A0 d37_23 (pc' := 24) rfl (((chW b i).toUInt32 >>> ((2 : Int32) &&& 31).toUInt32).toInt32) (chr_id (by have := ch_w b i; omega)) ?_
    exact f_retBN A0 hlk hret d37_24 (by decide) (((chW b i).toUInt32 >>> ((2 : Int32) &&& 31).toUInt32).toInt32) (nar_id (by have := ch_w b i; omega)) (by decide) (by decide) K0 ⟨by rw [← hc, chV, if_neg q], rfl⟩
theorem d1_0 : decode method_4_code 0 = .ok (.iload_n 0, 1) := by decide +kernel
theorem d1_1 : decode method_4_code 1 = .ok (.ifCond .ne 14, 3) := by decide +kernel
theorem d1_4 : decode method_4_code 4 = .ok (.new 24, 3) := by decide +kernel
theorem d1_7 : decode method_4_code 7 = .ok (.dup, 1) := by decide +kernel
theorem d1_8 : decode method_4_code 8 = .ok (.iconst 0, 1) := by decide +kernel
theorem d1_9 : decode method_4_code 9 = .ok (.newarray .char, 2) := by decide +kernel
theorem d1_11 : decode method_4_code 11 = .ok (.invokespecial 37, 3) := by decide +kernel
theorem pd15 : parseMethodDescriptor "([C)V" = some ⟨[(.array .char)], none⟩ := by decide +kernel
theorem d1_14 : decode method_4_code 14 = .ok (.areturn, 1) := by decide +kernel
set_option maxRecDepth 65536 in
set_option maxHeartbeats 40000000 in
theorem m_str0 (l : Launch) (Z : State) (a0 : Array Value) (hw : ∀ d ∈ tables_1, d.before a0 Z = true) (bits c0 c1 c2 : Int32) (zc : Int32) (O2 : Sta Z Z.heap "java/lang/String" "COMPACT_STRINGS" "Z" (.int zc)) (P5 : ¬ zc = 0) (h0 : Heap) (n0 : Nat) (ho : Old Z n0 h0) (hEL : EW Z a0 ELs) (hc0 : chV bits 0 = c0) (r0 : ¬ c0 < 0 ∧ ¬ (255 : Int32) < c0) (hc1 : chV bits 1 = c1) (r1 : ¬ c1 < 0 ∧ ¬ (255 : Int32) < c1) (hc2 : chV bits 2 = c2) (r2 : ¬ c2 < 0 ∧ ¬ (255 : Int32) < c2) :
    CW l (⟨"com/example/mapwright/mapwright/config/MapperReaderQualifiedPinLaw", "str", "(II)Ljava/lang/String;"⟩ : MethodName) method_4_code 2 (some (.object "java/lang/String")) [] ({ frames := 5, cells := 4, slots := 14, locals := 100 } : Room) Z ELs [] n0 h0 #[(.int (0 : Int32)), (.int bits)] [] (fun v h => ∃ (x t : Addr), v = some (.ref x) ∧ h0.size ≤ x ∧ Str Z h x t []) := by
  refine CW.walk (plainFor_of_name pn4) ho (L0 := #[.val (.int (0 : Int32)), .val (.int bits)]) (fun m => rfl) ?_
  intro pG e s m below meth cO T hlk hret hnm hSL A0
  have K0 : Keep h0 h0 [] := Keep.refl _ _
  refine f_iloadN A0 d1_0 (pc' := 1) rfl rfl ?_
  refine f_ifN A0 d1_1 ((if0 _ _).trans (teq (by decide : (0 : Int32) = (0 : Int32))).2) (pc' := 4) rfl ?_
  refine f_new A0 d1_4 (pc' := 7) rfl (wd hw 4 rfl) (wd hw 5 rfl) (wd hw 6 rfl) (by decide) (by decide) fun a113 T113 h113 g113 A113 E113 X113 D113 => ?_
  have z113 : n0 ≤ a113 := Nat.le_trans A0.sz (Nat.le_of_eq g113.symm)
  have y113 : h0.size ≤ a113 := Nat.le_trans K0.1 (Nat.le_of_eq g113.symm)
  have Q114 : Keep h0 h113 [] := K0.ext E113
  have s113 := Safe.ext E113 (A0.ch rfl).1 (Safe.new (Nat.le_of_eq g113.symm))
  refine f_dup A113 d1_7 (pc' := 8) rfl rfl ?_
  refine f_iconst A113 d1_8 (pc' := 9) rfl 0 rfl ?_
  refine f_newP A113 0 d1_9 (pc' := 11) rfl (wd hw 7 rfl) (by decide) (by decide) (by decide) (by decide) (by decide) (ad := "[C") (by decide) fun a115 T115 h115 k115 g115 A115 E115 F115 X115 => ?_
  have z115 : n0 ≤ a115 := Nat.le_trans A113.sz (Nat.le_of_eq g115.symm)
  have y115 : h0.size ≤ a115 := Nat.le_trans Q114.1 (Nat.le_of_eq g115.symm)
  have Q116 : Keep h0 h115 [] := Q114.ext E115
  have V115 := F115
  have c117 := (X113.ext E115)
  have c118 := ((show Fld Z h113 a113 "java/lang/String" "value" "[B" .null from D113 (Or.inr (wd hw 20 rfl)) (ty := (.array .byte)) (by decide)).ext E115)
  have c119 := ((show Fld Z h113 a113 "java/lang/String" "coder" "B" (.int (0 : Int32)) from D113 (Or.inr (wd hw 21 rfl)) (ty := .byte) (by decide)).ext E115)
  have c121 := (Safe.ext E115 (A113.ch rfl).1 s113)
  refine f_callIW A115 (a := a113) d1_11 (pc' := 14) rfl rfl (wd hw 8 rfl) (wd hw 9 rfl) (wd hw 10 rfl) (by decide) pd15 [(.ref a115)] [(.ref a113)] rfl rfl rfl 1 (Nat.le_of_eq rfl) (CW.pay (W := 1) A115 hEL (m_new1E l Z a0 hw a113 a115 k115 [] h115 n0 A115.old hEL c117 c118 c119 z113 V115) (wd hw 10 rfl) (wd hw 6 rfl) (by decide) (by decide) (allS ⟨(Nat.lt_of_lt_of_le X113.lt E115.1), c121⟩ all0)) (kc := 2) (ks := 4) (by decide) (by decide) (allS z113 all0) fun v120 vm120 T120 h120 L120 A120 K120 C120 q120 => ?_
  have Q122 : Keep h0 h120 [] := Q116.trans K120 (allS (Or.inr y113) all0)
  obtain ⟨rfl, t120, G120⟩ := q120
  show Wp pG e below _ T120 (mkF m 14 _ [(.ref a113)])
  exact f_retRW A120 hEL hlk hret d1_14 rfl rfl (by decide) (by decide) Q122 ⟨a113, t120, rfl, y113, G120⟩
theorem d1_15 : decode method_4_code 15 = .ok (.iload_n 0, 1) := by decide +kernel
theorem d1_16 : decode method_4_code 16 = .ok (.iconst 1, 1) := by decide +kernel
theorem d1_17 : decode method_4_code 17 = .ok (.if_icmp .ne 22, 3) := by decide +kernel
theorem d1_20 : decode method_4_code 20 = .ok (.new 24, 3) := by decide +kernel
theorem d1_23 : decode method_4_code 23 = .ok (.dup, 1) := by decide +kernel
theorem d1_24 : decode method_4_code 24 = .ok (.iconst 1, 1) := by decide +kernel
theorem d1_25 : decode method_4_code 25 = .ok (.newarray .char, 2) := by decide +kernel
theorem d1_27 : decode method_4_code 27 = .ok (.dup, 1) := by decide +kernel
theorem d1_28 : decode method_4_code 28 = .ok (.iconst 0, 1) := by decide +kernel
theorem d1_29 : decode method_4_code 29 = .ok (.iload_n 1, 1) := by decide +kernel
theorem d1_30 : decode method_4_code 30 = .ok (.iconst 0, 1) := by decide +kernel
theorem d1_31 : decode method_4_code 31 = .ok (.invokestatic 19, 3) := by decide +kernel
theorem pd16 : parseMethodDescriptor "(II)C" = some ⟨[.int, .int], some .char⟩ := by decide +kernel
theorem d1_34 : decode method_4_code 34 = .ok (.castore, 1) := by decide +kernel
theorem d1_35 : decode method_4_code 35 = .ok (.invokespecial 37, 3) := by decide +kernel
theorem d1_38 : decode method_4_code 38 = .ok (.areturn, 1) := by decide +kernel
set_option maxRecDepth 65536 in
set_option maxHeartbeats 40000000 in
theorem m_str1 (l : Launch) (Z : State) (a0 : Array Value) (hw : ∀ d ∈ tables_1, d.before a0 Z = true) (bits c0 c1 c2 : Int32) (zc : Int32) (O2 : Sta Z Z.heap "java/lang/String" "COMPACT_STRINGS" "Z" (.int zc)) (P5 : ¬ zc = 0) (h0 : Heap) (n0 : Nat) (ho : Old Z n0 h0) (hEL : EW Z a0 ELs) (hc0 : chV bits 0 = c0) (r0 : ¬ c0 < 0 ∧ ¬ (255 : Int32) < c0) (hc1 : chV bits 1 = c1) (r1 : ¬ c1 < 0 ∧ ¬ (255 : Int32) < c1) (hc2 : chV bits 2 = c2) (r2 : ¬ c2 < 0 ∧ ¬ (255 : Int32) < c2) :
    CW l (⟨"com/example/mapwright/mapwright/config/MapperReaderQualifiedPinLaw", "str", "(II)Ljava/lang/String;"⟩ : MethodName) method_4_code 2 (some (.object "java/lang/String")) [] ({ frames := 5, cells := 4, slots := 14, locals := 100 } : Room) Z ELs [] n0 h0 #[(.int (1 : Int32)), (.int bits)] [] (fun v h => ∃ (x t : Addr), v = some (.ref x) ∧ h0.size ≤ x ∧ Str Z h x t [c0]) := by
  refine CW.walk (plainFor_of_name pn4) ho (L0 := #[.val (.int (1 : Int32)), .val (.int bits)]) (fun m => rfl) ?_
  intro pG e s m below meth cO T hlk hret hnm hSL A0
  have K0 : Keep h0 h0 [] := Keep.refl _ _
  refine f_iloadN A0 d1_0 (pc' := 1) rfl rfl ?_
  refine f_ifY A0 d1_1 ((if0 _ _).trans (feq (by decide : ¬ (1 : Int32) = (0 : Int32))).2) (pc' := 15) (by decide) (by decide) ?_
  refine f_iloadN A0 d1_15 (pc' := 16) rfl rfl ?_
  refine f_iconst A0 d1_16 (pc' := 17) rfl 1 rfl ?_
  refine f_icN A0 d1_17 (teq (by decide : (1 : Int32) = (1 : Int32))).2 (pc' := 20) rfl ?_
  refine f_new A0 d1_20 (pc' := 23) rfl (wd hw 4 rfl) (wd hw 5 rfl) (wd hw 6 rfl) (by decide) (by decide) fun a123 T123 h123 g123 A123 E123 X123 D123 => ?_
  have z123 : n0 ≤ a123 := Nat.le_trans A0.sz (Nat.le_of_eq g123.symm)
  have y123 : h0.size ≤ a123 := Nat.le_trans K0.1 (Nat.le_of_eq g123.symm)
  have Q124 : Keep h0 h123 [] := K0.ext E123
  have s123 := Safe.ext E123 (A0.ch rfl).1 (Safe.new (Nat.le_of_eq g123.symm))
  refine f_dup A123 d1_23 (pc' := 24) rfl rfl ?_
  refine f_iconst A123 d1_24 (pc' := 25) rfl 1 rfl ?_
  refine f_newP A123 1 d1_25 (pc' := 27) rfl (wd hw 7 rfl) (by decide) (by decide) (by decide) (by decide) (by decide) (ad := "[C") (by decide) fun a125 T125 h125 k125 g125 A125 E125 F125 X125 => ?_
  have z125 : n0 ≤ a125 := Nat.le_trans A123.sz (Nat.le_of_eq g125.symm)
  have y125 : h0.size ≤ a125 := Nat.le_trans Q124.1 (Nat.le_of_eq g125.symm)
  have Q126 : Keep h0 h125 [] := Q124.ext E125
  have V125 : Arv Z h125 a125 k125 .char (1 : Int32) [(.int (0 : Int32))] (.int (0 : Int32)) := F125.pad (pad_rep [] (.int (0 : Int32)) 1)
  refine f_dup A125 d1_27 (pc' := 28) rfl rfl ?_
  refine f_iconst A125 d1_28 (pc' := 29) rfl 0 rfl ?_
  refine f_iloadN A125 d1_29 (pc' := 30) rfl rfl ?_
  refine f_iconst A125 d1_30 (pc' := 31) rfl 0 rfl ?_
  refine f_callS A125 d1_31 (pc' := 34) rfl (wd hw 190 rfl) (wd hw 191 rfl) (wd hw 2 rfl) (wd hw 192 rfl) (by decide) pd16 [(.int bits), (.int (0 : Int32))] [(.int (0 : Int32)), (.ref a125), (.ref a125), (.ref a123), (.ref a123)] rfl rfl rfl 5 (Nat.le_of_eq rfl) (CN.pay (W := 5) A125 (m_ch l Z a0 hw bits (0 : Int32) c0 h125 n0 A125.old hc0) (wd hw 192 rfl) (wd hw 2 rfl) (by decide) (by decide)) (kc := 0) (ks := 0) (by decide) (by decide) all0 (fun _ => sf0) fun v127 T127 h127 L127 A127 K127 q127 => ?_
  obtain ⟨rfl, hh127⟩ := q127
  obtain rfl := hh127.symm
  show Wp pG e below _ T127 (mkF m 34 _ [(.int c0), (.int (0 : Int32)), (.ref a125), (.ref a125), (.ref a123), (.ref a123)])
  refine f_castore A127 d1_34 (pc' := 35) rfl V125 ⟨by decide, by decide⟩ 0 (by decide) (Nat.le_of_ble_eq_true rfl) c0 (nar_id (by have := of_lat r0; omega)) (vs' := [(.int c0)]) rfl z125 (fun _ => (Safe.exa A127.hZ.alike X125 (by decide) (by decide))) fun T128 h128 A128 K128 V128 => ?_
  have Q129 : Keep h0 h128 [] := Q126.trans K128 (allS (Or.inr y125) all0)
  have c130 := ((X123.ext E125).keep K128)
  have c131 := (((show Fld Z h123 a123 "java/lang/String" "value" "[B" .null from D123 (Or.inr (wd hw 20 rfl)) (ty := (.array .byte)) (by decide)).ext E125).keep K128 (ninS (Nat.ne_of_lt (Nat.lt_of_lt_of_le X123.lt (Nat.le_of_eq g125.symm))) nin0))
  have c132 := (((show Fld Z h123 a123 "java/lang/String" "coder" "B" (.int (0 : Int32)) from D123 (Or.inr (wd hw 21 rfl)) (ty := .byte) (by decide)).ext E125).keep K128 (ninS (Nat.ne_of_lt (Nat.lt_of_lt_of_le X123.lt (Nat.le_of_eq g125.symm))) nin0))
  have c134 := (Safe.keep K128 (sfS (Safe.exa A127.hZ.alike X125 (by decide) (by decide)) sf0) (A127.ch rfl).1 (Safe.ext E125 (A123.ch rfl).1 s123))
  refine f_callI A128 (a := a123) d1_35 (pc' := 38) rfl rfl (wd hw 8 rfl) (wd hw 9 rfl) (wd hw 10 rfl) (by decide) pd15 [(.ref a125)] [(.ref a123)] rfl rfl rfl 1 (Nat.le_of_eq rfl) (payNew (W := 1) A128 hw (wd hw 5 rfl) (cs := [c0]) 1 z123 c130 c131 c132 V128 O2 P5 rfl rfl (by decide) (by decide) (lc r0 ln) (by decide) (by decide)) (kc := 1) (ks := 1) (by decide) (by decide) (allS z123 all0) (fun _ => (sfS c134 sf0)) fun v133 T133 h133 L133 A133 K133 q133 => ?_
  have Q135 : Keep h0 h133 [] := Q129.trans K133 (allS (Or.inr y123) all0)
  obtain ⟨rfl, t133, tz133, tg133, tn133, G133⟩ := q133
  show Wp pG e below _ T133 (mkF m 38 _ [(.ref a123)])
  exact f_retRW A133 hEL hlk hret d1_38 rfl rfl (by decide) (by decide) Q135 ⟨a123, t133, rfl, y123, G133⟩
theorem d1_39 : decode method_4_code 39 = .ok (.iload_n 0, 1) := by decide +kernel
theorem d1_40 : decode method_4_code 40 = .ok (.iconst 2, 1) := by decide +kernel
theorem d1_41 : decode method_4_code 41 = .ok (.if_icmp .ne 30, 3) := by decide +kernel
theorem d1_44 : decode method_4_code 44 = .ok (.new 24, 3) := by decide +kernel
theorem d1_47 : decode method_4_code 47 = .ok (.dup, 1) := by decide +kernel
theorem d1_48 : decode method_4_code 48 = .ok (.iconst 2, 1) := by decide +kernel
theorem d1_49 : decode method_4_code 49 = .ok (.newarray .char, 2) := by decide +kernel
theorem d1_51 : decode method_4_code 51 = .ok (.dup, 1) := by decide +kernel
theorem d1_52 : decode method_4_code 52 = .ok (.iconst 0, 1) := by decide +kernel
theorem d1_53 : decode method_4_code 53 = .ok (.iload_n 1, 1) := by decide +kernel
theorem d1_54 : decode method_4_code 54 = .ok (.iconst 0, 1) := by decide +kernel
theorem d1_55 : decode method_4_code 55 = .ok (.invokestatic 19, 3) := by decide +kernel
theorem d1_58 : decode method_4_code 58 = .ok (.castore, 1) := by decide +kernel
theorem d1_59 : decode method_4_code 59 = .ok (.dup, 1) := by decide +kernel
theorem d1_60 : decode method_4_code 60 = .ok (.iconst 1, 1) := by decide +kernel
theorem d1_61 : decode method_4_code 61 = .ok (.iload_n 1, 1) := by decide +kernel
theorem d1_62 : decode method_4_code 62 = .ok (.iconst 1, 1) := by decide +kernel
theorem d1_63 : decode method_4_code 63 = .ok (.invokestatic 19, 3) := by decide +kernel
theorem d1_66 : decode method_4_code 66 = .ok (.castore, 1) := by decide +kernel
theorem d1_67 : decode method_4_code 67 = .ok (.invokespecial 37, 3) := by decide +kernel
theorem d1_70 : decode method_4_code 70 = .ok (.areturn, 1) := by decide +kernel
set_option maxRecDepth 65536 in
set_option maxHeartbeats 40000000 in
theorem m_str2 (l : Launch) (Z : State) (a0 : Array Value) (hw : ∀ d ∈ tables_1, d.before a0 Z = true) (bits c0 c1 c2 : Int32) (zc : Int32) (O2 : Sta Z Z.heap "java/lang/String" "COMPACT_STRINGS" "Z" (.int zc)) (P5 : ¬ zc = 0) (h0 : Heap) (n0 : Nat) (ho : Old Z n0 h0) (hEL : EW Z a0 ELs) (hc0 : chV bits 0 = c0) (r0 : ¬ c0 < 0 ∧ ¬ (255 : Int32) < c0) (hc1 : chV bits 1 = c1) (r1 : ¬ c1 < 0 ∧ ¬ (255 : Int32) < c1) (hc2 : chV bits 2 = c2) (r2 : ¬ c2 < 0 ∧ ¬ (255 : Int32) < c2) :
    CW l (⟨"com/example/mapwright/mapwright/config/MapperReaderQualifiedPinLaw", "str", "(II)Ljava/lang/String;"⟩ : MethodName) method_4_code 2 (some (.object "java/lang/String")) [] ({ frames := 5, cells := 4, slots := 14, locals := 100 } : Room) Z ELs [] n0 h0 #[(.int (2 : Int32)), (.int bits)] [] (fun v h => ∃ (x t : Addr), v = some (.ref x) ∧ h0.size ≤ x ∧ Str Z h x t [c0, c1]) := by
  refine CW.walk (plainFor_of_name pn4) ho (L0 := #[.val (.int (2 : Int32)), .val (.int bits)]) (fun m => rfl) ?_
  intro pG e s m below meth cO T hlk hret hnm hSL A0
  have K0 : Keep h0 h0 [] := Keep.refl _ _
  refine f_iloadN A0 d1_0 (pc' := 1) rfl rfl ?_
  refine f_ifY A0 d1_1 ((if0 _ _).trans (feq (by decide : ¬ (2 : Int32) = (0 : Int32))).2) (pc' := 15) (by decide) (by decide) ?_
  refine f_iloadN A0 d1_15 (pc' := 16) rfl rfl ?_
  refine f_iconst A0 d1_16 (pc' := 17) rfl 1 rfl ?_
  refine f_icY A0 d1_17 (feq (by decide : ¬ (2 : Int32) = (1 : Int32))).2 (pc' := 39) (by decide) (by decide) ?_
  refine f_iloadN A0 d1_39 (pc' := 40) rfl rfl ?_
  refine f_iconst A0 d1_40 (pc' := 41) rfl 2 rfl ?_
  refine f_icN A0 d1_41 (teq (by decide : (2 : Int32) = (2 : Int32))).2 (pc' := 44) rfl ?_
  refine f_new A0 d1_44 (pc' := 47) rfl (wd hw 4 rfl) (wd hw 5 rfl) (wd hw 6 rfl) (by decide) (by decide) fun a136 T136 h136 g136 A136 E136 X136 D136 => ?_
  have z136 : n0 ≤ a136 := Nat.le_trans A0.sz (Nat.le_of_eq g136.symm)
  have y136 : h0.size ≤ a136 := Nat.le_trans K0.1 (Nat.le_of_eq g136.symm)
  have Q137 : Keep h0 h136 [] := K0.ext E136
  have s136 := Safe.ext E136 (A0.ch rfl).1 (Safe.new (Nat.le_of_eq g136.symm))
  refine f_dup A136 d1_47 (pc' := 48) rfl rfl ?_
  refine f_iconst A136 d1_48 (pc' := 49) rfl 2 rfl ?_
  refine f_newP A136 2 d1_49 (pc' := 51) rfl (wd hw 7 rfl) (by decide) (by decide) (by decide) (by decide) (by decide) (ad := "[C") (by decide) fun a138 T138 h138 k138 g138 A138 E138 F138 X138 => ?_
  have z138 : n0 ≤ a138 := Nat.le_trans A136.sz (Nat.le_of_eq g138.symm)
  have y138 : h0.size ≤ a138 := Nat.le_trans Q137.1 (Nat.le_of_eq g138.symm)
  have Q139 : Keep h0 h138 [] := Q137.ext E138
  have V138 : Arv Z h138 a138 k138 .char (2 : Int32) [(.int (0 : Int32)), (.int (0 : Int32))] (.int (0 : Int32)) := F138.pad (pad_rep [] (.int (0 : Int32)) 2)
  refine f_dup A138 d1_51 (pc' := 52) rfl rfl ?_
  refine f_iconst A138 d1_52 (pc' := 53) rfl 0 rfl ?_
  refine f_iloadN A138 d1_53 (pc' := 54) rfl rfl ?_
  refine f_iconst A138 d1_54 (pc' := 55) rfl 0 rfl ?_
  refine f_callS A138 d1_55 (pc' := 58) rfl (wd hw 190 rfl) (wd hw 191 rfl) (wd hw 2 rfl) (wd hw 192 rfl) (by decide) pd16 [(.int bits), (.int (0 : Int32))] [(.int (0 : Int32)), (.ref a138), (.ref a138), (.ref a136), (.ref a136)] rfl rfl rfl 5 (Nat.le_of_eq rfl) (CN.pay (W := 5) A138 (m_ch l Z a0 hw bits (0 : Int32) c0 h138 n0 A138.old hc0) (wd hw 192 rfl) (wd hw 2 rfl) (by decide) (by decide)) (kc := 0) (ks := 0) (by decide) (by decide) all0 (fun _ => sf0) fun v140 T140 h140 L140 A140 K140 q140 => ?_
  obtain ⟨rfl, hh140⟩ := q140
  obtain rfl := hh140.symm
  show Wp pG e below _ T140 (mkF m 58 _ [(.int c0), (.int (0 : Int32)), (.ref a138), (.ref a138), (.ref a136), (.ref a136)])
  refine f_castore A140 d1_58 (pc' := 59) rfl V138 ⟨by decide, by decide⟩ 0 (by decide) (Nat.le_of_ble_eq_true rfl) c0 (nar_id (by have := of_lat r0; omega)) (vs' := [(.int c0), (.int (0 : Int32))]) rfl z138 (fun _ => (Safe.exa A140.hZ.alike X138 (by decide) (by decide))) fun T141 h141 A141 K141 V141 => ?_
  have Q142 : Keep h0 h141 [] := Q139.trans K141 (allS (Or.inr y138) all0)
  refine f_dup A141 d1_59 (pc' := 60) rfl rfl ?_
  refine f_iconst A141 d1_60 (pc' := 61) rfl 1 rfl ?_
  refine f_iloadN A141 d1_61 (pc' := 62) rfl rfl ?_
  refine f_iconst A141 d1_62 (pc' := 63) rfl 1 rfl ?_
  refine f_callS A141 d1_63 (pc' := 66) rfl (wd hw 190 rfl) (wd hw 191 rfl) (wd hw 2 rfl) (wd hw 192 rfl) (by decide) pd16 [(.int bits), (.int (1 : Int32))] [(.int (1 : Int32)), (.ref a138), (.ref a138), (.ref a136), (.ref a136)] rfl rfl rfl 5 (Nat.le_of_eq rfl) (CN.pay (W := 5) A141 (m_ch l Z a0 hw bits (1 : Int32) c1 h141 n0 A141.old hc1) (wd hw 192 rfl) (wd hw 2 rfl) (by decide) (by decide)) (kc := 0) (ks := 0) (by decide) (by decide) all0 (fun _ => sf0) fun v143 T143 h143 L143 A143 K143 q143 => ?_
  obtain ⟨rfl, hh143⟩ := q143
  obtain rfl := hh143.symm
  show Wp pG e below _ T143 (mkF m 66 _ [(.int c1), (.int (1 : Int32)), (.ref a138), (.ref a138), (.ref a136), (.ref a136)])
  have c145 := (X138.keep K141)
  refine f_castore A143 d1_66 (pc' := 67) rfl V141 ⟨by decide, by decide⟩ 1 (by decide) (Nat.le_of_ble_eq_true rfl) c1 (nar_id (by have := of_lat r1; omega)) (vs' := [(.int c0), (.int c1)]) rfl z138 (fun _ => (Safe.exa A143.hZ.alike c145 (by decide) (by decide))) fun T144 h144 A144 K144 V144 => ?_
  have Q146 : Keep h0 h144 [] := Q142.trans K144 (allS (Or.inr y138) all0)
  have c147 := (((X136.ext E138).keep K141).keep K144)
  have c148 := ((((show Fld Z h136 a136 "java/lang/String" "value" "[B" .null from D136 (Or.inr (wd hw 20 rfl)) (ty := (.array .byte)) (by decide)).ext E138).keep K141 (ninS (Nat.ne_of_lt (Nat.lt_of_lt_of_le X136.lt (Nat.le_of_eq g138.symm))) nin0)).keep K144 (ninS (Nat.ne_of_lt (Nat.lt_of_lt_of_le X136.lt (Nat.le_of_eq g138.symm))) nin0))
  have c149 := ((((show Fld Z h136 a136 "java/lang/String" "coder" "B" (.int (0 : Int32)) from D136 (Or.inr (wd hw 21 rfl)) (ty := .byte) (by decide)).ext E138).keep K141 (ninS (Nat.ne_of_lt (Nat.lt_of_lt_of_le X136.lt (Nat.le_of_eq g138.symm))) nin0)).keep K144 (ninS (Nat.ne_of_lt (Nat.lt_of_lt_of_le X136.lt (Nat.le_of_eq g138.symm))) nin0))
  have c151 := (Safe.keep K144 (sfS (Safe.exa A143.hZ.alike c145 (by decide) (by decide)) sf0) (A143.ch rfl).1 (Safe.keep K141 (sfS (Safe.exa A140.hZ.alike X138 (by decide) (by decide)) sf0) (A140.ch rfl).1 (Safe.ext E138 (A136.ch rfl).1 s136)))
  refine f_callI A144 (a := a136) d1_67 (pc' := 70) rfl rfl (wd hw 8 rfl) (wd hw 9 rfl) (wd hw 10 rfl) (by decide) pd15 [(.ref a138)] [(.ref a136)] rfl rfl rfl 1 (Nat.le_of_eq rfl) (payNew (W := 1) A144 hw (wd hw 5 rfl) (cs := [c0, c1]) 2 z136 c147 c148 c149 V144 O2 P5 rfl rfl (by decide) (by decide) (lc r0 (lc r1 ln)) (by decide) (by decide)) (kc := 1) (ks := 2) (by decide) (by decide) (allS z136 all0) (fun _ => (sfS c151 sf0)) fun v150 T150 h150 L150 A150 K150 q150 => ?_
  have Q152 : Keep h0 h150 [] := Q146.trans K150 (allS (Or.inr y136) all0)
  obtain ⟨rfl, t150, tz150, tg150, tn150, G150⟩ := q150
  show Wp pG e below _ T150 (mkF m 70 _ [(.ref a136)])
  exact f_retRW A150 hEL hlk hret d1_70 rfl rfl (by decide) (by decide) Q152 ⟨a136, t150, rfl, y136, G150⟩
theorem d1_71 : decode method_4_code 71 = .ok (.new 24, 3) := by decide +kernel
theorem d1_74 : decode method_4_code 74 = .ok (.dup, 1) := by decide +kernel
theorem d1_75 : decode method_4_code 75 = .ok (.iconst 3, 1) := by decide +kernel
theorem d1_76 : decode method_4_code 76 = .ok (.newarray .char, 2) := by decide +kernel
theorem d1_78 : decode method_4_code 78 = .ok (.dup, 1) := by decide +kernel
theorem d1_79 : decode method_4_code 79 = .ok (.iconst 0, 1) := by decide +kernel
theorem d1_80 : decode method_4_code 80 = .ok (.iload_n 1, 1) := by decide +kernel
theorem d1_81 : decode method_4_code 81 = .ok (.iconst 0, 1) := by decide +kernel
theorem d1_82 : decode method_4_code 82 = .ok (.invokestatic 19, 3) := by decide +kernel
theorem d1_85 : decode method_4_code 85 = .ok (.castore, 1) := by decide +kernel
theorem d1_86 : decode method_4_code 86 = .ok (.dup, 1) := by decide +kernel
theorem d1_87 : decode method_4_code 87 = .ok (.iconst 1, 1) := by decide +kernel
theorem d1_88 : decode method_4_code 88 = .ok (.iload_n 1, 1) := by decide +kernel
theorem d1_89 : decode method_4_code 89 = .ok (.iconst 1, 1) := by decide +kernel
theorem d1_90 : decode method_4_code 90 = .ok (.invokestatic 19, 3) := by decide +kernel
theorem d1_93 : decode method_4_code 93 = .ok (.castore, 1) := by decide +kernel
theorem d1_94 : decode method_4_code 94 = .ok (.dup, 1) := by decide +kernel
theorem d1_95 : decode method_4_code 95 = .ok (.iconst 2, 1) := by decide +kernel
theorem d1_96 : decode method_4_code 96 = .ok (.iload_n 1, 1) := by decide +kernel
theorem d1_97 : decode method_4_code 97 = .ok (.iconst 2, 1) := by decide +kernel
theorem d1_98 : decode method_4_code 98 = .ok (.invokestatic 19, 3) := by decide +kernel
theorem d1_101 : decode method_4_code 101 = .ok (.castore, 1) := by decide +kernel
theorem d1_102 : decode method_4_code 102 = .ok (.invokespecial 37, 3) := by decide +kernel
theorem d1_105 : decode method_4_code 105 = .ok (.areturn, 1) := by decide +kernel
set_option maxRecDepth 65536 in
set_option maxHeartbeats 40000000 in
theorem m_str3 (l : Launch) (Z : State) (a0 : Array Value) (hw : ∀ d ∈ tables_1, d.before a0 Z = true) (bits c0 c1 c2 : Int32) (zc : Int32) (O2 : Sta Z Z.heap "java/lang/String" "COMPACT_STRINGS" "Z" (.int zc)) (P5 : ¬ zc = 0) (h0 : Heap) (n0 : Nat) (ho : Old Z n0 h0) (hEL : EW Z a0 ELs) (hc0 : chV bits 0 = c0) (r0 : ¬ c0 < 0 ∧ ¬ (255 : Int32) < c0) (hc1 : chV bits 1 = c1) (r1 : ¬ c1 < 0 ∧ ¬ (255 : Int32) < c1) (hc2 : chV bits 2 = c2) (r2 : ¬ c2 < 0 ∧ ¬ (255 : Int32) < c2) :
    CW l (⟨"com/example/mapwright/mapwright/config/MapperReaderQualifiedPinLaw", "str", "(II)Ljava/lang/String;"⟩ : MethodName) method_4_code 2 (some (.object "java/lang/String")) [] ({ frames := 5, cells := 4, slots := 14, locals := 100 } : Room) Z ELs [] n0 h0 #[(.int (3 : Int32)), (.int bits)] [] (fun v h => ∃ (x t : Addr), v = some (.ref x) ∧ h0.size ≤ x ∧ Str Z h x t [c0, c1, c2]) := by
  refine CW.walk (plainFor_of_name pn4) ho (L0 := #[.val (.int (3 : Int32)), .val (.int bits)]) (fun m => rfl) ?_
  intro pG e s m below meth cO T hlk hret hnm hSL A0
  have K0 : Keep h0 h0 [] := Keep.refl _ _
  refine f_iloadN A0 d1_0 (pc' := 1) rfl rfl ?_
  refine f_ifY A0 d1_1 ((if0 _ _).trans (feq (by decide : ¬ (3 : Int32) = (0 : Int32))).2) (pc' := 15) (by decide) (by decide) ?_
  refine f_iloadN A0 d1_15 (pc' := 16) rfl rfl ?_
  refine f_iconst A0 d1_16 (pc' := 17) rfl 1 rfl ?_
  refine f_icY A0 d1_17 (feq (by decide : ¬ (3 : Int32) = (1 : Int32))).2 (pc' := 39) (by decide) (by decide) ?_
  refine f_iloadN A0 d1_39 (pc' := 40) rfl rfl ?_
  refine f_iconst A0 d1_40 (pc' := 41) rfl 2 rfl ?_
  refine f_icY A0 d1_41 (feq (by decide : ¬ (3 : Int32) = (2 : Int32))).2 (pc' := 71) (by decide) (by decide) ?_
  refine f_new A0 d1_71 (pc' := 74) rfl (wd hw 4 rfl) (wd hw 5 rfl) (wd hw 6 rfl) (by decide) (by decide) fun a153 T153 h153 g153 A153 E153 X153 D153 => ?_
  have z153 : n0 ≤ a153 := Nat.le_trans A0.sz (Nat.le_of_eq g153.symm)
  have y153 : h0.size ≤ a153 := Nat.le_trans K0.1 (Nat.le_of_eq g153.symm)
  have Q154 : Keep h0 h153 [] := K0.ext E153
  have s153 := Safe.ext E153 (A0.ch rfl).1 (Safe.new (Nat.le_of_eq g153.symm))
  refine f_dup A153 d1_74 (pc' := 75) rfl rfl ?_
  refine f_iconst A153 d1_75 (pc' := 76) rfl 3 rfl ?_
  refine f_newP A153 3 d1_76 (pc' := 78) rfl (wd hw 7 rfl) (by decide) (by decide) (by decide) (by decide) (by decide) (ad := "[C") (by decide) fun a155 T155 h155 k155 g155 A155 E155 F155 X155 => ?_
  have z155 : n0 ≤ a155 := Nat.le_trans A153.sz (Nat.le_of_eq g155.symm)
  have y155 : h0.size ≤ a155 := Nat.le_trans Q154.1 (Nat.le_of_eq g155.symm)
  have Q156 : Keep h0 h155 [] := Q154.ext E155
  have V155 : Arv Z h155 a155 k155 .char (3 : Int32) [(.int (0 : Int32)), (.int (0 : Int32)), (.int (0 : Int32))] (.int (0 : Int32)) := F155.pad (pad_rep [] (.int (0 : Int32)) 3)
  refine f_dup A155 d1_78 (pc' := 79) rfl rfl ?_
  refine f_iconst A155 d1_79 (pc' := 80) rfl 0 rfl ?_
  refine f_iloadN A155 d1_80 (pc' := 81) rfl rfl ?_
  refine f_iconst A155 d1_81 (pc' := 82) rfl 0 rfl ?_
  refine f_callS A155 d1_82 (pc' := 85) rfl (wd hw 190 rfl) (wd hw 191 rfl) (wd hw 2 rfl) (wd hw 192 rfl) (by decide) pd16 [(.int bits), (.int (0 : Int32))] [(.int (0 : Int32)), (.ref a155), (.ref a155), (.ref a153), (.ref a153)] rfl rfl rfl 5 (Nat.le_of_eq rfl) (CN.pay (W := 5) A155 (m_ch l Z a0 hw bits (0 : Int32) c0 h155 n0 A155.old hc0) (wd hw 192 rfl) (wd hw 2 rfl) (by decide) (by decide)) (kc := 0) (ks := 0) (by decide) (by decide) all0 (fun _ => sf0) fun v157 T157 h157 L157 A157 K157 q157 => ?_
  obtain ⟨rfl, hh157⟩ := q157
  obtain rfl := hh157.symm
  show Wp pG e below _ T157 (mkF m 85 _ [(.int c0), (.int (0 : Int32)), (.ref a155), (.ref a155), (.ref a153), (.ref a153)])
  refine f_castore A157 d1_85 (pc' := 86) rfl V155 ⟨by decide, by decide⟩ 0 (by decide) (Nat.le_of_ble_eq_true rfl) c0 (nar_id (by have := of_lat r0; omega)) (vs' := [(.int c0), (.int (0 : Int32)), (.int (0 : Int32))]) rfl z155 (fun _ => (Safe.exa A157.hZ.alike X155 (by decide) (by decide))) fun T158 h158 A158 K158 V158 => ?_
  have Q159 : Keep h0 h158 [] := Q156.trans K158 (allS (Or.inr y155) all0)
  refine f_dup A158 d1_86 (pc' := 87) rfl rfl ?_
  refine f_iconst A158 d1_87 (pc' := 88) rfl 1 rfl ?_
  refine f_iloadN A158 d1_88 (pc' := 89) rfl rfl ?_
  refine f_iconst A158 d1_89 (pc' := 90) rfl 1 rfl ?_
  refine f_callS A158 d1_90 (pc' := 93) rfl (wd hw 190 rfl) (wd hw 191 rfl) (wd hw 2 rfl) (wd hw 192 rfl) (by decide) pd16 [(.int bits), (.int (1 : Int32))] [(.int (1 : Int32)), (.ref a155), (.ref a155), (.ref a153), (.ref a153)] rfl rfl rfl 5 (Nat.le_of_eq rfl) (CN.pay (W := 5) A158 (m_ch l Z a0 hw bits (1 : Int32) c1 h158 n0 A158.old hc1) (wd hw 192 rfl) (wd hw 2 rfl) (by decide) (by decide)) (kc := 0) (ks := 0) (by decide) (by decide) all0 (fun _ => sf0) fun v160 T160 h160 L160 A160 K160 q160 => ?_
  obtain ⟨rfl, hh160⟩ := q160
  obtain rfl := hh160.symm
  show Wp pG e below _ T160 (mkF m 93 _ [(.int c1), (.int (1 : Int32)), (.ref a155), (.ref a155), (.ref a153), (.ref a153)])
  have c162 := (X155.keep K158)
  refine f_castore A160 d1_93 (pc' := 94) rfl V158 ⟨by decide, by decide⟩ 1 (by decide) (Nat.le_of_ble_eq_true rfl) c1 (nar_id (by have := of_lat r1; omega)) (vs' := [(.int c0), (.int c1), (.int (0 : Int32))]) rfl z155 (fun _ => (Safe.exa A160.hZ.alike c162 (by decide) (by decide))) fun T161 h161 A161 K161 V161 => ?_
  have Q163 : Keep h0 h161 [] := Q159.trans K161 (allS (Or.inr y155) all0)
  refine f_dup A161 d1_94 (pc' := 95) rfl rfl ?_
  refine f_iconst A161 d1_95 (pc' := 96) rfl 2 rfl ?_
  refine f_iloadN A161 d1_96 (pc' := 97) rfl rfl ?_
  refine f_iconst A161 d1_97 (pc' := 98) rfl 2 rfl ?_
  refine f_callS A161 d1_98 (pc' := 101) rfl (wd hw 190 rfl) (wd hw 191 rfl) (wd hw 2 rfl) (wd hw 192 rfl) (by decide) pd16 [(.int bits), (.int (2 : Int32))] [(.int (2 : Int32)), (.ref a155), (.ref a155), (.ref a153), (.ref a153)] rfl rfl rfl 5 (Nat.le_of_eq rfl) (CN.pay (W := 5) A161 (m_ch l Z a0 hw bits (2 : Int32) c2 h161 n0 A161.old hc2) (wd hw 192 rfl) (wd hw 2 rfl) (by decide) (by decide)) (kc := 0) (ks := 0) (by decide) (by decide) all0 (fun _ => sf0) fun v164 T164 h164 L164 A164 K164 q164 => ?_
  obtain ⟨rfl, hh164⟩ := q164
  obtain rfl := hh164.symm
  show Wp pG e below _ T164 (mkF m 101 _ [(.int c2), (.int (2 : Int32)), (.ref a155), (.ref a155), (.ref a153), (.ref a153)])
  have c166 := (c162.keep K161)
  refine f_castore A164 d1_101 (pc' := 102) rfl V161 ⟨by decide, by decide⟩ 2 (by decide) (Nat.le_of_ble_eq_true rfl) c2 (nar_id (by have := of_lat r2; omega)) (vs' := [(.int c0), (.int c1), (.int c2)]) rfl z155 (fun _ => (Safe.exa A164.hZ.alike c166 (by decide) (by decide))) fun T165 h165 A165 K165 V165 => ?_
  have Q167 : Keep h0 h165 [] := Q163.trans K165 (allS (Or.inr y155) all0)
  have c168 := ((((X153.ext E155).keep K158).keep K161).keep K165)
  have c169 := (((((show Fld Z h153 a153 "java/lang/String" "value" "[B" .null from D153 (Or.inr (wd hw 20 rfl)) (ty := (.array .byte)) (by decide)).ext E155).keep K158 (ninS (Nat.ne_of_lt (Nat.lt_of_lt_of_le X153.lt (Nat.le_of_eq g155.symm))) nin0)).keep K161 (ninS (Nat.ne_of_lt (Nat.lt_of_lt_of_le X153.lt (Nat.le_of_eq g155.symm))) nin0)).keep K165 (ninS (Nat.ne_of_lt (Nat.lt_of_lt_of_le X153.lt (Nat.le_of_eq g155.symm))) nin0))
  have c170 := (((((show Fld Z h153 a153 "java/lang/String" "coder" "B" (.int (0 : Int32)) from D153 (Or.inr (wd hw 21 rfl)) (ty := .byte) (by decide)).ext E155).keep K158 (ninS (Nat.ne_of_lt (Nat.lt_of_lt_of_le X153.lt (Nat.le_of_eq g155.symm))) nin0)).keep K161 (ninS (Nat.ne_of_lt (Nat.lt_of_lt_of_le X153.lt (Nat.le_of_eq g155.symm))) nin0)).keep K165 (ninS (Nat.ne_of_lt (Nat.lt_of_lt_of_le X153.lt (Nat.le_of_eq g155.symm))) nin0))
  have c172 := (Safe.keep K165 (sfS (Safe.exa A164.hZ.alike c166 (by decide) (by decide)) sf0) (A164.ch rfl).1 (Safe.keep K161 (sfS (Safe.exa A160.hZ.alike c162 (by decide) (by decide)) sf0) (A160.ch rfl).1 (Safe.keep K158 (sfS (Safe.exa A157.hZ.alike X155 (by decide) (by decide)) sf0) (A157.ch rfl).1 (Safe.ext E155 (A153.ch rfl).1 s153))))
  refine f_callI A165 (a := a153) d1_102 (pc' := 105) rfl rfl (wd hw 8 rfl) (wd hw 9 rfl) (wd hw 10 rfl) (by decide) pd15 [(.ref a155)] [(.ref a153)] rfl rfl rfl 1 (Nat.le_of_eq rfl) (payNew (W := 1) A165 hw (wd hw 5 rfl) (cs := [c0, c1, c2]) 3 z153 c168 c169 c170 V165 O2 P5 rfl rfl (by decide) (by decide) (lc r0 (lc r1 (lc r2 ln))) (by decide) (by decide)) (kc := 1) (ks := 3) (by decide) (by decide) (allS z153 all0) (fun _ => (sfS c172 sf0)) fun v171 T171 h171 L171 A171 K171 q171 => ?_
  have Q173 : Keep h0 h171 [] := Q167.trans K171 (allS (Or.inr y153) all0)
  obtain ⟨rfl, t171, tz171, tg171, tn171, G171⟩ := q171
  show Wp pG e below _ T171 (mkF m 105 _ [(.ref a153)])
  exact f_retRW A171 hEL hlk hret d1_105 rfl rfl (by decide) (by decide) Q173 ⟨a153, t171, rfl, y153, G171⟩
theorem d7_0 : decode jdk_42_method_126_code 0 = .ok (.aload_n 0, 1) := by decide +kernel
theorem d7_1 : decode jdk_42_method_126_code 1 = .ok (.areturn, 1) := by decide +kernel
set_option maxRecDepth 65536 in
set_option maxHeartbeats 40000000 in
theorem m_toS (l : Launch) (Z : State) (a0 : Array Value) (hw : ∀ d ∈ tables_1, d.before a0 Z = true) (x : Addr) (h0 : Heap) (n0 : Nat) (ho : Old Z n0 h0)  :
    CN l (⟨"java/lang/String", "toString", "()Ljava/lang/String;"⟩ : MethodName) jdk_42_method_126_code 1 (some (.object "java/lang/String")) [] ({ frames := 0, cells := 0, slots := 0, locals := 0 } : Room) Z n0 h0 #[(.ref x)] [] (fun v h => v = some (.ref x) ∧ h = h0) := by
  refine CN.walk (plainFor_of_name pn0) ho (L0 := #[.val (.ref x)]) (fun m => rfl) ?_
  intro pG e s m below meth cO T hlk hret hnm A0
  have K0 : Keep h0 h0 [] := Keep.refl _ _
  refine f_aloadN A0 d7_0 (pc' := 1) rfl rfl rfl ?_
  exact f_retRN A0 hlk hret d7_1 rfl rfl (by decide) (by decide) K0 ⟨rfl, rfl⟩
theorem pn5 : plainName "java/lang/StringLatin1" = true := by first | (simp [plainName, overriddenIn]; done) | decide +kernel
theorem d11_0 : decode jdk_43_method_24_code 0 = .ok (.aload_n 1, 1) := by decide +kernel
theorem d11_1 : decode jdk_43_method_24_code 1 = .ok (.arraylength, 1) := by decide +kernel
theorem d11_2 : decode jdk_43_method_24_code 2 = .ok (.ifCond .ne 5, 3) := by decide +kernel
theorem d11_7 : decode jdk_43_method_24_code 7 = .ok (.aload_n 0, 1) := by decide +kernel
theorem d11_8 : decode jdk_43_method_24_code 8 = .ok (.arraylength, 1) := by decide +kernel
theorem d11_9 : decode jdk_43_method_24_code 9 = .ok (.ifCond .ne 5, 3) := by decide +kernel
theorem d11_12 : decode jdk_43_method_24_code 12 = .ok (.iconst (-1), 1) := by decide +kernel
theorem d11_13 : decode jdk_43_method_24_code 13 = .ok (.ireturn, 1) := by decide +kernel
set_option maxRecDepth 65536 in
set_option maxHeartbeats 40000000 in
theorem m_xl0 (l : Launch) (Z : State) (a0 : Array Value) (hw : ∀ d ∈ tables_1, d.before a0 Z = true) (t u : Addr) (kb ku : ClassId)  (h0 : Heap) (n0 : Nat) (ho : Old Z n0 h0) (V : Arv Z h0 t kb .byte 0 [] (.int 0)) (D : Arv Z h0 u ku .byte 1 [(.int (StrChars.lo8 46))] (.int 0))  :
    CN l (⟨"java/lang/StringLatin1", "indexOf", "([B[B)I"⟩ : MethodName) jdk_43_method_24_code 2 (some .int) [] ({ frames := 1, cells := 0, slots := 0, locals := 30 } : Room) Z n0 h0 #[(.ref t), (.ref u)] [] (fun v h => v = some (.int (idxD [] 0)) ∧ h = h0) := by
  refine CN.walk (plainFor_of_name pn5) ho (L0 := #[.val (.ref t), .val (.ref u)]) (fun m => rfl) ?_
  intro pG e s m below meth cO T hlk hret hnm A0
  have K0 : Keep h0 h0 [] := Keep.refl _ _
  refine f_aloadN A0 d11_0 (pc' := 1) rfl rfl rfl ?_
  refine f_arraylength A0 d11_1 (pc' := 2) rfl D ?_
  refine f_ifY A0 d11_2 ((if0 _ _).trans (feq (by decide : ¬ (1 : Int32) = (0 : Int32))).2) (pc' := 7) (by decide) (by decide) ?_
  refine f_aloadN A0 d11_7 (pc' := 8) rfl rfl rfl ?_
  refine f_arraylength A0 d11_8 (pc' := 9) rfl V ?_
  refine f_ifN A0 d11_9 ((if0 _ _).trans (teq (by decide : (0 : Int32) = (0 : Int32))).2) (pc' := 12) rfl ?_
  refine f_iconst A0 d11_12 (pc' := 13) rfl (-1) rfl ?_
  exact f_retIN A0 hlk hret d11_13 (by decide) (by decide) K0 ⟨rfl, rfl⟩
theorem d8_0 : decode jdk_42_method_84_code 0 = .ok (.aload_n 0, 1) := by decide +kernel
theorem d8_1 : decode jdk_42_method_84_code 1 = .ok (.invokevirtual 335, 3) := by decide +kernel
theorem d8_4 : decode jdk_42_method_84_code 4 = .ok (.istore_n 2, 1) := by decide +kernel
theorem d8_5 : decode jdk_42_method_84_code 5 = .ok (.iload_n 2, 1) := by decide +kernel
theorem d8_6 : decode jdk_42_method_84_code 6 = .ok (.aload_n 1, 1) := by decide +kernel
theorem d8_7 : decode jdk_42_method_84_code 7 = .ok (.invokevirtual 335, 3) := by decide +kernel
theorem d8_10 : decode jdk_42_method_84_code 10 = .ok (.if_icmp .ne 36, 3) := by decide +kernel
theorem d8_13 : decode jdk_42_method_84_code 13 = .ok (.aload_n 0, 1) := by decide +kernel
theorem d8_14 : decode jdk_42_method_84_code 14 = .ok (.invokevirtual 492, 3) := by decide +kernel
theorem d8_17 : decode jdk_42_method_84_code 17 = .ok (.ifCond .eq 17, 3) := by decide +kernel
theorem d8_20 : decode jdk_42_method_84_code 20 = .ok (.aload_n 0, 1) := by decide +kernel
theorem d8_21 : decode jdk_42_method_84_code 21 = .ok (.getfield 9, 3) := by decide +kernel
theorem d8_24 : decode jdk_42_method_84_code 24 = .ok (.aload_n 1, 1) := by decide +kernel
theorem d8_25 : decode jdk_42_method_84_code 25 = .ok (.getfield 9, 3) := by decide +kernel
theorem d8_28 : decode jdk_42_method_84_code 28 = .ok (.invokestatic 647, 3) := by decide +kernel
theorem pd17 : parseMethodDescriptor "([B[B)I" = some ⟨[(.array .byte), (.array .byte)], some .int⟩ := by decide +kernel
theorem d8_31 : decode jdk_42_method_84_code 31 = .ok (.goto 14, 3) := by decide +kernel
theorem d8_45 : decode jdk_42_method_84_code 45 = .ok (.ireturn, 1) := by decide +kernel
set_option maxRecDepth 65536 in
set_option maxHeartbeats 40000000 in
theorem m_xs0 (l : Launch) (Z : State) (a0 : Array Value) (hw : ∀ d ∈ tables_1, d.before a0 Z = true) (x t d u : Addr)  (zc : Int32) (O2 : Sta Z Z.heap "java/lang/String" "COMPACT_STRINGS" "Z" (.int zc)) (P5 : ¬ zc = 0) (h0 : Heap) (n0 : Nat) (ho : Old Z n0 h0) (F : Str Z h0 x t []) (G : Str Z h0 d u [46])  :
    CN l (⟨"java/lang/String", "indexOf", "(Ljava/lang/String;)I"⟩ : MethodName) jdk_42_method_84_code 3 (some .int) [] ({ frames := 2, cells := 0, slots := 0, locals := 50 } : Room) Z n0 h0 #[(.ref x), (.ref d)] [] (fun v h => v = some (.int (idxD [] 0)) ∧ h = h0) := by
  refine CN.walk (plainFor_of_name pn0) ho (L0 := #[.val (.ref x), .val (.ref d), .unset]) (fun m => rfl) ?_
  intro pG e s m below meth cO T hlk hret hnm A0
  have K0 : Keep h0 h0 [] := Keep.refl _ _
  obtain ⟨kb174, fv174, fc174, av174⟩ := F.open ln
  have av174 : Arv Z h0 t kb174 .byte (0 : Int32) [] (.int 0) := av174
  obtain ⟨kb175, fv175, fc175, av175⟩ := G.open (by decide)
  have av175 : Arv Z h0 u kb175 .byte (1 : Int32) [(.int (StrChars.lo8 (46 : Int32)))] (.int 0) := av175
  refine f_aloadN A0 d8_0 (pc' := 1) rfl rfl rfl ?_
  refine f_callV A0 (a := x) d8_1 (pc' := 4) rfl (wd hw 50 rfl) (wd hw 51 rfl) (nfS A0 (wd hw 53 rfl)) (wd hw 53 rfl) (wd hw 52 rfl) (by decide) F.exa pd2 [] [] rfl rfl rfl 0 (Nat.le_of_eq rfl) (CN.pay (W := 0) A0 (m_cod0 l Z a0 hw x zc O2 P5 h0 n0 A0.old fc174) (wd hw 54 rfl) (wd hw 6 rfl) (by decide) (by decide)) (kc := 0) (ks := 0) (by decide) (by decide) all0 (fun q => nomatch q) fun v176 T176 h176 L176 A176 K176 q176 => ?_
  obtain ⟨rfl, hh176⟩ := q176
  obtain rfl := hh176.symm
  show Wp pG e below _ T176 (mkF m 4 _ [(.int (0 : Int32))])
  refine f_istoreN A176 d8_4 (pc' := 5) rfl (L' := #[.val (.ref x), .val (.ref d), .val (.int (0 : Int32))]) rfl ?_
  refine f_iloadN A176 d8_5 (pc' := 6) rfl rfl ?_
  refine f_aloadN A176 d8_6 (pc' := 7) rfl rfl rfl ?_
  refine f_callV A176 (a := d) d8_7 (pc' := 10) rfl (wd hw 50 rfl) (wd hw 51 rfl) (nfS A176 (wd hw 53 rfl)) (wd hw 53 rfl) (wd hw 52 rfl) (by decide) G.exa pd2 [] [(.int (0 : Int32))] rfl rfl rfl 1 (Nat.le_of_eq rfl) (CN.pay (W := 1) A176 (m_cod0 l Z a0 hw d zc O2 P5 h0 n0 A176.old fc175) (wd hw 54 rfl) (wd hw 6 rfl) (by decide) (by decide)) (kc := 0) (ks := 0) (by decide) (by decide) all0 (fun q => nomatch q) fun v177 T177 h177 L177 A177 K177 q177 => ?_
  obtain ⟨rfl, hh177⟩ := q177
  obtain rfl := hh177.symm
  show Wp pG e below _ T177 (mkF m 10 _ [(.int (0 : Int32)), (.int (0 : Int32))])
  refine f_icN A177 d8_10 (teq (by decide : (0 : Int32) = (0 : Int32))).2 (pc' := 13) rfl ?_
  refine f_aloadN A177 d8_13 (pc' := 14) rfl rfl rfl ?_
  refine f_callV A177 (a := x) d8_14 (pc' := 17) rfl (wd hw 56 rfl) (wd hw 57 rfl) (nfS A177 (wd hw 59 rfl)) (wd hw 59 rfl) (wd hw 58 rfl) (by decide) F.exa pd12 [] [] rfl rfl rfl 0 (Nat.le_of_eq rfl) (CN.pay (W := 0) A177 (m_isLat l Z a0 hw x zc O2 P5 h0 n0 A177.old fc174) (wd hw 60 rfl) (wd hw 6 rfl) (by decide) (by decide)) (kc := 0) (ks := 0) (by decide) (by decide) all0 (fun q => nomatch q) fun v178 T178 h178 L178 A178 K178 q178 => ?_
  obtain ⟨rfl, hh178⟩ := q178
  obtain rfl := hh178.symm
  show Wp pG e below _ T178 (mkF m 17 _ [(.int (1 : Int32))])
  refine f_ifN A178 d8_17 ((if0 _ _).trans (feq (by decide : ¬ (1 : Int32) = (0 : Int32))).1) (pc' := 20) rfl ?_
  refine f_aloadN A178 d8_20 (pc' := 21) rfl rfl rfl ?_
  refine f_getF A178 d8_21 (pc' := 24) rfl (host := "") (Or.inl (wd hw 24 rfl)) Via.refl fv174 fun T179 A179 => ?_
  refine f_aloadN A179 d8_24 (pc' := 25) rfl rfl rfl ?_
  refine f_getF A179 d8_25 (pc' := 28) rfl (host := "") (Or.inl (wd hw 24 rfl)) Via.refl fv175 fun T180 A180 => ?_
  refine f_callS A180 d8_28 (pc' := 31) rfl (wd hw 61 rfl) (wd hw 62 rfl) (wd hw 63 rfl) (wd hw 64 rfl) (by decide) pd17 [(.ref t), (.ref u)] [] rfl rfl rfl 0 (Nat.le_of_eq rfl) (CN.pay (W := 0) A180 (m_xl0 l Z a0 hw t u kb174 kb175  h0 n0 A180.old av174 av175 ) (wd hw 64 rfl) (wd hw 63 rfl) (by decide) (by decide)) (kc := 0) (ks := 0) (by decide) (by decide) all0 (fun q => nomatch q) fun v181 T181 h181 L181 A181 K181 q181 => ?_
  obtain ⟨rfl, hh181⟩ := q181
  obtain rfl := hh181.symm
  show Wp pG e below _ T181 (mkF m 31 _ [(.int (idxD [] 0))])
  refine f_goto A181 d8_31 (pc' := 45) (by decide) (by decide) ?_
  exact f_retIN A181 hlk hret d8_45 (by decide) (by decide) K0 ⟨rfl, rfl⟩
theorem d6_0 : decode jdk_42_method_97_code 0 = .ok (.aload_n 0, 1) := by decide +kernel
theorem d6_1 : decode jdk_42_method_97_code 1 = .ok (.aload_n 1, 1) := by decide +kernel
theorem d6_2 : decode jdk_42_method_97_code 2 = .ok (.invokeinterface 710 1, 5) := by decide +kernel
theorem pd18 : parseMethodDescriptor "()Ljava/lang/String;" = some ⟨[], some (.object "java/lang/String")⟩ := by decide +kernel
theorem d6_7 : decode jdk_42_method_97_code 7 = .ok (.invokevirtual 711, 3) := by decide +kernel
theorem pd19 : parseMethodDescriptor "(Ljava/lang/String;)I" = some ⟨[(.object "java/lang/String")], some .int⟩ := by decide +kernel
theorem d6_10 : decode jdk_42_method_97_code 10 = .ok (.ifCond .lt 7, 3) := by decide +kernel
theorem d6_17 : decode jdk_42_method_97_code 17 = .ok (.iconst 0, 1) := by decide +kernel
theorem d6_18 : decode jdk_42_method_97_code 18 = .ok (.ireturn, 1) := by decide +kernel
theorem d6_13 : decode jdk_42_method_97_code 13 = .ok (.iconst 1, 1) := by decide +kernel
theorem d6_14 : decode jdk_42_method_97_code 14 = .ok (.goto 4, 3) := by decide +kernel
set_option maxRecDepth 65536 in
set_option maxHeartbeats 40000000 in
theorem m_con0 (l : Launch) (Z : State) (a0 : Array Value) (hw : ∀ d ∈ tables_1, d.before a0 Z = true) (x t d u : Addr)  (zc : Int32) (O2 : Sta Z Z.heap "java/lang/String" "COMPACT_STRINGS" "Z" (.int zc)) (P5 : ¬ zc = 0) (r : Int32) (h0 : Heap) (n0 : Nat) (ho : Old Z n0 h0) (F : Str Z h0 x t []) (G : Str Z h0 d u [46])  (hr : (if idxD [] 0 < 0 then 0 else 1) = r) :
    CN l (⟨"java/lang/String", "contains", "(Ljava/lang/CharSequence;)Z"⟩ : MethodName) jdk_42_method_97_code 2 (some .boolean) [] ({ frames := 3, cells := 0, slots := 0, locals := 70 } : Room) Z n0 h0 #[(.ref x), (.ref d)] [] (fun v h => v = some (.int r) ∧ h = h0) := by
  refine CN.walk (plainFor_of_name pn0) ho (L0 := #[.val (.ref x), .val (.ref d)]) (fun m => rfl) ?_
  intro pG e s m below meth cO T hlk hret hnm A0
  have K0 : Keep h0 h0 [] := Keep.refl _ _
  refine f_aloadN A0 d6_0 (pc' := 1) rfl rfl rfl ?_
  refine f_aloadN A0 d6_1 (pc' := 2) rfl rfl rfl ?_
  refine f_callF A0 (a := d) d6_2 (pc' := 7) rfl (wd hw 36 rfl) (wd hw 37 rfl) (wd hw 38 rfl) (by first | rfl | decide) (wd hw 39 rfl) (wd hw 40 rfl) (wd hw 41 rfl) (wd hw 42 rfl) (wd hw 43 rfl) (by decide) G.exa pd18 [] [(.ref x)] rfl rfl rfl 1 (Nat.le_of_eq rfl) (CN.pay (W := 1) A0 (m_toS l Z a0 hw d h0 n0 A0.old) (wd hw 44 rfl) (wd hw 6 rfl) (by decide) (by decide)) (kc := 0) (ks := 0) (by decide) (by decide) all0 (fun q => nomatch q) fun v182 T182 h182 L182 A182 K182 q182 => ?_
  obtain ⟨rfl, hh182⟩ := q182
  obtain rfl := hh182.symm
  show Wp pG e below _ T182 (mkF m 7 _ [(.ref d), (.ref x)])
  refine f_callV A182 (a := x) d6_7 (pc' := 10) rfl (wd hw 45 rfl) (wd hw 46 rfl) (nfS A182 (wd hw 48 rfl)) (wd hw 48 rfl) (wd hw 47 rfl) (by decide) F.exa pd19 [(.ref d)] [] rfl rfl rfl 0 (Nat.le_of_eq rfl) (CN.pay (W := 0) A182 (m_xs0 l Z a0 hw x t d u  zc O2 P5 h0 n0 A182.old F G ) (wd hw 49 rfl) (wd hw 6 rfl) (by decide) (by decide)) (kc := 0) (ks := 0) (by decide) (by decide) all0 (fun q => nomatch q) fun v183 T183 h183 L183 A183 K183 q183 => ?_
  obtain ⟨rfl, hh183⟩ := q183
  obtain rfl := hh183.symm
  show Wp pG e below _ T183 (mkF m 10 _ [(.int (idxD [] 0))])
  by_cases q : (idxD [] 0) < (0 : Int32)
  · refine f_ifY A183 d6_10 ((if0 _ _).trans (tlt q).1) (pc' := 17) (by decide) (by decide) ?_
    refine f_iconst A183 d6_17 (pc' := 18) rfl 0 rfl ?_
    exact f_retBN A183 hlk hret d6_18 (by decide) (0 : Int32) (by decide) (by decide) (by decide) K0 ⟨by rw [← hr, if_pos q], rfl⟩
  · refine f_ifN A183 d6_10 ((if0 _ _).trans (flt q).1) (pc' := 13) rfl ?_
    refine f_iconst A183 d6_13 (pc' := 14) rfl 1 rfl ?_
    refine f_goto A183 d6_14 (pc' := 18) (by decide) (by decide) ?_
    exact f_retBN A183 hlk hret d6_18 (by decide) (1 : Int32) (by decide) (by decide) (by decide) K0 ⟨by rw [← hr, if_neg q], rfl⟩
theorem pn6 : plainName "com/example/mapwright/mapwright/config/MapperReader" = true := by first | (simp [plainName, overriddenIn]; done) | decide +kernel
theorem d5_0 : decode prog_26_method_11_code 0 = .ok (.aload_n 1, 1) := by decide +kernel
theorem d5_1 : decode prog_26_method_11_code 1 = .ok (.ldc 250, 2) := by decide +kernel
theorem d5_3 : decode prog_26_method_11_code 3 = .ok (.invokevirtual 381, 3) := by decide +kernel
theorem pd20 : parseMethodDescriptor "(Ljava/lang/CharSequence;)Z" = some ⟨[(.object "java/lang/CharSequence")], some .boolean⟩ := by decide +kernel
theorem d5_6 : decode prog_26_method_11_code 6 = .ok (.ifCond .eq 7, 3) := by decide +kernel
theorem d5_9 : decode prog_26_method_11_code 9 = .ok (.aload_n 1, 1) := by decide +kernel
theorem d5_10 : decode prog_26_method_11_code 10 = .ok (.goto 26, 3) := by decide +kernel
theorem d5_36 : decode prog_26_method_11_code 36 = .ok (.areturn, 1) := by decide +kernel
set_option maxRecDepth 65536 in
set_option maxHeartbeats 40000000 in
theorem m_qd0 (l : Launch) (Z : State) (a0 : Array Value) (hw : ∀ d ∈ tables_1, d.before a0 Z = true) (z x t : Addr)  (zc : Int32) (O2 : Sta Z Z.heap "java/lang/String" "COMPACT_STRINGS" "Z" (.int zc)) (P5 : ¬ zc = 0) (h0 : Heap) (n0 : Nat) (ho : Old Z n0 h0) (hEL : EW Z a0 ELs) (F : Str Z h0 x t [])  (hdot : (if idxD [] 0 < 0 then (0 : Int32) else 1) = 1) :
    CW l (⟨"com/example/mapwright/mapwright/config/MapperReader", "qualified", "(Ljava/lang/String;Ljava/lang/String;)Ljava/lang/String;"⟩ : MethodName) prog_26_method_11_code 2 (some (.object "java/lang/String")) [] ({ frames := 4, cells := 2, slots := 8, locals := 90 } : Room) Z ELs [] n0 h0 #[(.ref z), (.ref x)] [] (fun v h => v = some (.ref x)) := by
  refine CW.walk (plainFor_of_name pn6) ho (L0 := #[.val (.ref z), .val (.ref x)]) (fun m => rfl) ?_
  intro pG e s m below meth cO T hlk hret hnm hSL A0
  have K0 : Keep h0 h0 [] := Keep.refl _ _
  refine f_aloadN A0 d5_0 (pc' := 1) rfl rfl rfl ?_
  refine f_ldcC A0 d5_1 (pc' := 3) rfl (by decide) (vs := [(.int (46 : Int32))]) (z := 1) ⟨by decide, by decide⟩ (by decide) (by decide) (wd hw 30 rfl) (strA hw) hEL (n := 4) (by decide) (by decide) (by decide) (by decide) fun a184 b184 kb184 vm184 T184 h184 A184 E184 C184 Li184 x184 fc184 fv184 av184 hs184 => ?_
  have G184 : Str Z h184 a184 b184 [(46 : Int32)] := strLit x184 fc184 fv184 av184 (Or.inl ⟨rfl, rfl, rfl, by decide⟩) (by decide) (by decide)
  have Q185 : Keep h0 h184 [] := K0.ext E184
  have c186 := (F.ext E184)
  have c188 := (F.exa.ext E184)
  refine f_callV A184 (a := x) d5_3 (pc' := 6) rfl (wd hw 31 rfl) (wd hw 32 rfl) (nfS A184 (wd hw 34 rfl)) (wd hw 34 rfl) (wd hw 33 rfl) (by decide) c188 pd20 [(.ref a184)] [] rfl rfl rfl 0 (Nat.le_of_eq rfl) (CN.pay (W := 0) A184 (m_con0 l Z a0 hw x t a184 b184  zc O2 P5 1 h184 n0 A184.old c186 G184  hdot) (wd hw 35 rfl) (wd hw 6 rfl) (by decide) (by decide)) (kc := 0) (ks := 0) (by decide) (by decide) all0 (fun _ => sf0) fun v187 T187 h187 L187 A187 K187 q187 => ?_
  obtain ⟨rfl, hh187⟩ := q187
  obtain rfl := hh187.symm
  show Wp pG e below _ T187 (mkF m 6 _ [(.int (1 : Int32))])
  refine f_ifN A187 d5_6 ((if0 _ _).trans (feq (by decide : ¬ (1 : Int32) = (0 : Int32))).1) (pc' := 9) rfl ?_
  refine f_aloadN A187 d5_9 (pc' := 10) rfl rfl rfl ?_
  refine f_goto A187 d5_10 (pc' := 36) (by decide) (by decide) ?_
  exact f_retRW A187 hEL hlk hret d5_36 rfl rfl (by decide) (by decide) Q185 rfl
theorem d5_13 : decode prog_26_method_11_code 13 = .ok (.new 243, 3) := by decide +kernel
theorem d5_16 : decode prog_26_method_11_code 16 = .ok (.dup, 1) := by decide +kernel
theorem d5_17 : decode prog_26_method_11_code 17 = .ok (.invokespecial 245, 3) := by decide +kernel
theorem pd21 : parseMethodDescriptor "()V" = some ⟨[], none⟩ := by decide +kernel
theorem d5_20 : decode prog_26_method_11_code 20 = .ok (.aload_n 0, 1) := by decide +kernel
theorem d5_21 : decode prog_26_method_11_code 21 = .ok (.invokevirtual 246, 3) := by decide +kernel
theorem pd22 : parseMethodDescriptor "(Ljava/lang/String;)Ljava/lang/StringBuilder;" = some ⟨[(.object "java/lang/String")], some (.object "java/lang/StringBuilder")⟩ := by decide +kernel
theorem d5_24 : decode prog_26_method_11_code 24 = .ok (.ldc 250, 2) := by decide +kernel
theorem d5_26 : decode prog_26_method_11_code 26 = .ok (.invokevirtual 246, 3) := by decide +kernel
theorem d5_29 : decode prog_26_method_11_code 29 = .ok (.aload_n 1, 1) := by decide +kernel
theorem d5_30 : decode prog_26_method_11_code 30 = .ok (.invokevirtual 246, 3) := by decide +kernel
theorem d5_33 : decode prog_26_method_11_code 33 = .ok (.invokevirtual 252, 3) := by decide +kernel
set_option maxRecDepth 65536 in
set_option maxHeartbeats 40000000 in
theorem m_qn0 (l : Launch) (Z : State) (a0 : Array Value) (hw : ∀ d ∈ tables_1, d.before a0 Z = true) (z y x t : Addr) (es : List Int32)  (zc : Int32) (O2 : Sta Z Z.heap "java/lang/String" "COMPACT_STRINGS" "Z" (.int zc)) (P5 : ¬ zc = 0) (h0 : Heap) (n0 : Nat) (ho : Old Z n0 h0) (hEL : EW Z a0 ELs) (Fz : Str Z h0 z y es) (F : Str Z h0 x t []) (hes : ∀ c ∈ es, ¬ c < 0 ∧ ¬ (255 : Int32) < c) (hle : es.length ≤ 3)  (hdot : (if idxD [] 0 < 0 then (0 : Int32) else 1) = 0) :
    CW l (⟨"com/example/mapwright/mapwright/config/MapperReader", "qualified", "(Ljava/lang/String;Ljava/lang/String;)Ljava/lang/String;"⟩ : MethodName) prog_26_method_11_code 2 (some (.object "java/lang/String")) [] ({ frames := 7, cells := 9, slots := 150, locals := 190 } : Room) Z ELs [] n0 h0 #[(.ref z), (.ref x)] [] (fun v h => ∃ (a b : Addr), v = some (.ref a) ∧ h0.size ≤ a ∧ Str Z h a b (es ++ [(46 : Int32)] ++ [])) := by
  refine CW.walk (plainFor_of_name pn6) ho (L0 := #[.val (.ref z), .val (.ref x)]) (fun m => rfl) ?_
  intro pG e s m below meth cO T hlk hret hnm hSL A0
  have K0 : Keep h0 h0 [] := Keep.refl _ _
  refine f_aloadN A0 d5_0 (pc' := 1) rfl rfl rfl ?_
  refine f_ldcC A0 d5_1 (pc' := 3) rfl (by decide) (vs := [(.int (46 : Int32))]) (z := 1) ⟨by decide, by decide⟩ (by decide) (by decide) (wd hw 30 rfl) (strA hw) hEL (n := 4) (by decide) (by decide) (by decide) (by decide) fun a189 b189 kb189 vm189 T189 h189 A189 E189 C189 Li189 x189 fc189 fv189 av189 hs189 => ?_
  have G189 : Str Z h189 a189 b189 [(46 : Int32)] := strLit x189 fc189 fv189 av189 (Or.inl ⟨rfl, rfl, rfl, by decide⟩) (by decide) (by decide)
  have Q190 : Keep h0 h189 [] := K0.ext E189
  have c191 := (F.ext E189)
  have c193 := (F.exa.ext E189)
  refine f_callV A189 (a := x) d5_3 (pc' := 6) rfl (wd hw 31 rfl) (wd hw 32 rfl) (nfS A189 (wd hw 34 rfl)) (wd hw 34 rfl) (wd hw 33 rfl) (by decide) c193 pd20 [(.ref a189)] [] rfl rfl rfl 0 (Nat.le_of_eq rfl) (CN.pay (W := 0) A189 (m_con0 l Z a0 hw x t a189 b189  zc O2 P5 0 h189 n0 A189.old c191 G189  hdot) (wd hw 35 rfl) (wd hw 6 rfl) (by decide) (by decide)) (kc := 0) (ks := 0) (by decide) (by decide) all0 (fun _ => sf0) fun v192 T192 h192 L192 A192 K192 q192 => ?_
  obtain ⟨rfl, hh192⟩ := q192
  obtain rfl := hh192.symm
  show Wp pG e below _ T192 (mkF m 6 _ [(.int (0 : Int32))])
  refine f_ifY A192 d5_6 ((if0 _ _).trans (teq (by decide : (0 : Int32) = (0 : Int32))).1) (pc' := 13) (by decide) (by decide) ?_
  refine f_new A192 d5_13 (pc' := 16) rfl (wd hw 65 rfl) (wd hw 66 rfl) (wd hw 67 rfl) (by decide) (by decide) fun a194 T194 h194 g194 A194 E194 X194 D194 => ?_
  have z194 : n0 ≤ a194 := Nat.le_trans A192.sz (Nat.le_of_eq g194.symm)
  have y194 : h0.size ≤ a194 := Nat.le_trans Q190.1 (Nat.le_of_eq g194.symm)
  have Q195 : Keep h0 h194 [] := Q190.ext E194
  refine f_dup A194 d5_16 (pc' := 17) rfl rfl ?_
  refine f_callI A194 (a := a194) d5_17 (pc' := 20) rfl rfl (wd hw 68 rfl) (wd hw 69 rfl) (wd hw 70 rfl) (by decide) pd21 [] [(.ref a194)] rfl rfl rfl 1 (Nat.le_of_eq rfl) (CN.pay (W := 1) A194 (m_sbI l Z a0 hw a194 zc O2 P5 h194 n0 A194.old X194 (show Fld Z h194 a194 "java/lang/AbstractStringBuilder" "value" "[B" .null from D194 (Or.inl (wd hw 80 rfl)) (ty := (.array .byte)) (by decide)) (show Fld Z h194 a194 "java/lang/AbstractStringBuilder" "coder" "B" (.int (0 : Int32)) from D194 (Or.inl (wd hw 82 rfl)) (ty := .byte) (by decide)) (show Fld Z h194 a194 "java/lang/AbstractStringBuilder" "count" "I" (.int (0 : Int32)) from D194 (Or.inl (wd hw 99 rfl)) (ty := .int) (by decide)) z194) (wd hw 70 rfl) (wd hw 67 rfl) (by decide) (by decide)) (kc := 1) (ks := 16) (by decide) (by decide) (allS z194 all0) (fun _ => (sfS (Safe.exa A194.hZ.alike X194 (by decide) (by decide)) sf0)) fun v196 T196 h196 L196 A196 K196 q196 => ?_
  have Q197 : Keep h0 h196 [] := Q195.trans K196 (allS (Or.inr y194) all0)
  obtain ⟨rfl, v196, kb196, zv196, gv196, B196⟩ := q196
  show Wp pG e below _ T196 (mkF m 20 _ [(.ref a194)])
  refine f_aloadN A196 d5_20 (pc' := 21) rfl rfl rfl ?_
  have c198 := (((Fz.ext E189).ext E194).keep K196 (ninS (Nat.ne_of_lt (Nat.lt_of_lt_of_le (Nat.lt_of_lt_of_le Fz.lt E189.1) (Nat.le_of_eq g194.symm))) nin0) (ninS (Nat.ne_of_lt (Nat.lt_of_lt_of_le (Nat.lt_of_lt_of_le Fz.lt' E189.1) (Nat.le_of_eq g194.symm))) nin0))
  have s200 := Safe.keep K196 (sfS (Safe.exa A194.hZ.alike X194 (by decide) (by decide)) sf0) (A194.ch rfl).1 (Safe.new gv196)
  refine f_callV A196 (a := a194) d5_21 (pc' := 24) rfl (wd hw 83 rfl) (wd hw 84 rfl) (nfS A196 (wd hw 86 rfl)) (wd hw 86 rfl) (wd hw 85 rfl) (by decide) B196.1 pd22 [(.ref z)] [] rfl rfl rfl 0 (Nat.le_of_eq rfl) (CN.pay (W := 0) A196 (m_sbA l Z a0 hw a194 v196 kb196 16 [] z y es zc O2 P5 h196 n0 A196.old B196 c198 (fun c hc => (hes c hc).2) (by simp only [List.length_append, List.length_cons, List.length_nil]; omega) (by decide) z194 zv196 (Nat.ne_of_lt (Nat.lt_of_lt_of_le X194.lt gv196)) (Nat.ne_of_lt (Nat.lt_of_lt_of_le (Nat.lt_of_lt_of_le (Nat.lt_of_lt_of_le Fz.lt' E189.1) E194.1) gv196))) (wd hw 87 rfl) (wd hw 67 rfl) (by decide) (by decide)) (kc := 0) (ks := 0) (by decide) (by decide) (allS z194 (allS zv196 all0)) (fun _ => (sfS (Safe.exa A196.hZ.alike B196.1 (by decide) (by decide)) (sfS s200 sf0))) fun v199 T199 h199 L199 A199 K199 q199 => ?_
  have Q201 : Keep h0 h199 [] := Q197.trans K199 (allS (Or.inr y194) (allS (Or.inr (Nat.le_trans Q195.1 gv196)) all0))
  obtain ⟨rfl, B199⟩ := q199
  have B199 : SBd Z h199 a194 v196 kb196 16 es := B199
  show Wp pG e below _ T199 (mkF m 24 _ [(.ref a194)])
  refine f_ldcA A199 d5_24 (pc' := 26) rfl (wd hw 30 rfl) Li189 ?_
  have c203 := (((G189.ext E194).keep K196 (ninS (Nat.ne_of_lt (Nat.lt_of_lt_of_le x189.lt (Nat.le_of_eq g194.symm))) nin0) (ninS (Nat.ne_of_lt (Nat.lt_of_lt_of_le av189.lt (Nat.le_of_eq g194.symm))) nin0)).keep K199 (ninS (Nat.ne_of_lt (Nat.lt_of_lt_of_le x189.lt (Nat.le_of_eq g194.symm))) (ninS (Nat.ne_of_lt (Nat.lt_of_lt_of_le (Nat.lt_of_lt_of_le x189.lt E194.1) gv196)) nin0)) (ninS (Nat.ne_of_lt (Nat.lt_of_lt_of_le av189.lt (Nat.le_of_eq g194.symm))) (ninS (Nat.ne_of_lt (Nat.lt_of_lt_of_le (Nat.lt_of_lt_of_le av189.lt E194.1) gv196)) nin0)))
  have c205 := (Safe.keep K199 (sfS (Safe.exa A196.hZ.alike B196.1 (by decide) (by decide)) (sfS s200 sf0)) (A196.ch rfl).1 s200)
  refine f_callV A199 (a := a194) d5_26 (pc' := 29) rfl (wd hw 83 rfl) (wd hw 84 rfl) (nfS A199 (wd hw 86 rfl)) (wd hw 86 rfl) (wd hw 85 rfl) (by decide) B199.1 pd22 [(.ref a189)] [] rfl rfl rfl 0 (Nat.le_of_eq rfl) (CN.pay (W := 0) A199 (m_sbA l Z a0 hw a194 v196 kb196 16 es a189 b189 [(46 : Int32)] zc O2 P5 h199 n0 A199.old B199 c203 (by decide) (by simp only [List.length_append, List.length_cons, List.length_nil]; omega) (by decide) z194 zv196 (Nat.ne_of_lt (Nat.lt_of_lt_of_le X194.lt gv196)) (Nat.ne_of_lt (Nat.lt_of_lt_of_le (Nat.lt_of_lt_of_le av189.lt E194.1) gv196))) (wd hw 87 rfl) (wd hw 67 rfl) (by decide) (by decide)) (kc := 0) (ks := 0) (by decide) (by decide) (allS z194 (allS zv196 all0)) (fun _ => (sfS (Safe.exa A199.hZ.alike B199.1 (by decide) (by decide)) (sfS c205 sf0))) fun v204 T204 h204 L204 A204 K204 q204 => ?_
  have Q206 : Keep h0 h204 [] := Q201.trans K204 (allS (Or.inr y194) (allS (Or.inr (Nat.le_trans Q195.1 gv196)) all0))
  obtain ⟨rfl, B204⟩ := q204
  have B204 : SBd Z h204 a194 v196 kb196 16 (es ++ [(46 : Int32)]) := B204
  show Wp pG e below _ T204 (mkF m 29 _ [(.ref a194)])
  refine f_aloadN A204 d5_29 (pc' := 30) rfl rfl rfl ?_
  have c207 := ((((c191.ext E194).keep K196 (ninS (Nat.ne_of_lt (Nat.lt_of_lt_of_le (Nat.lt_of_lt_of_le F.lt E189.1) (Nat.le_of_eq g194.symm))) nin0) (ninS (Nat.ne_of_lt (Nat.lt_of_lt_of_le (Nat.lt_of_lt_of_le F.lt' E189.1) (Nat.le_of_eq g194.symm))) nin0)).keep K199 (ninS (Nat.ne_of_lt (Nat.lt_of_lt_of_le (Nat.lt_of_lt_of_le F.lt E189.1) (Nat.le_of_eq g194.symm))) (ninS (Nat.ne_of_lt (Nat.lt_of_lt_of_le (Nat.lt_of_lt_of_le (Nat.lt_of_lt_of_le F.lt E189.1) E194.1) gv196)) nin0)) (ninS (Nat.ne_of_lt (Nat.lt_of_lt_of_le (Nat.lt_of_lt_of_le F.lt' E189.1) (Nat.le_of_eq g194.symm))) (ninS (Nat.ne_of_lt (Nat.lt_of_lt_of_le (Nat.lt_of_lt_of_le (Nat.lt_of_lt_of_le F.lt' E189.1) E194.1) gv196)) nin0))).keep K204 (ninS (Nat.ne_of_lt (Nat.lt_of_lt_of_le (Nat.lt_of_lt_of_le F.lt E189.1) (Nat.le_of_eq g194.symm))) (ninS (Nat.ne_of_lt (Nat.lt_of_lt_of_le (Nat.lt_of_lt_of_le (Nat.lt_of_lt_of_le F.lt E189.1) E194.1) gv196)) nin0)) (ninS (Nat.ne_of_lt (Nat.lt_of_lt_of_le (Nat.lt_of_lt_of_le F.lt' E189.1) (Nat.le_of_eq g194.symm))) (ninS (Nat.ne_of_lt (Nat.lt_of_lt_of_le (Nat.lt_of_lt_of_le (Nat.lt_of_lt_of_le F.lt' E189.1) E194.1) gv196)) nin0)))
  have c209 := (Safe.keep K204 (sfS (Safe.exa A199.hZ.alike B199.1 (by decide) (by decide)) (sfS c205 sf0)) (A199.ch rfl).1 c205)
  refine f_callV A204 (a := a194) d5_30 (pc' := 33) rfl (wd hw 83 rfl) (wd hw 84 rfl) (nfS A204 (wd hw 86 rfl)) (wd hw 86 rfl) (wd hw 85 rfl) (by decide) B204.1 pd22 [(.ref x)] [] rfl rfl rfl 0 (Nat.le_of_eq rfl) (CN.pay (W := 0) A204 (m_sbA l Z a0 hw a194 v196 kb196 16 (es ++ [(46 : Int32)]) x t [] zc O2 P5 h204 n0 A204.old B204 c207 ln (by simp only [List.length_append, List.length_cons, List.length_nil]; omega) (by decide) z194 zv196 (Nat.ne_of_lt (Nat.lt_of_lt_of_le X194.lt gv196)) (Nat.ne_of_lt (Nat.lt_of_lt_of_le (Nat.lt_of_lt_of_le (Nat.lt_of_lt_of_le F.lt' E189.1) E194.1) gv196))) (wd hw 87 rfl) (wd hw 67 rfl) (by decide) (by decide)) (kc := 0) (ks := 0) (by decide) (by decide) (allS z194 (allS zv196 all0)) (fun _ => (sfS (Safe.exa A204.hZ.alike B204.1 (by decide) (by decide)) (sfS c209 sf0))) fun v208 T208 h208 L208 A208 K208 q208 => ?_
  have Q210 : Keep h0 h208 [] := Q206.trans K208 (allS (Or.inr y194) (allS (Or.inr (Nat.le_trans Q195.1 gv196)) all0))
  obtain ⟨rfl, B208⟩ := q208
  have B208 : SBd Z h208 a194 v196 kb196 16 ((es ++ [(46 : Int32)]) ++ []) := B208
  show Wp pG e below _ T208 (mkF m 33 _ [(.ref a194)])
  refine f_callV A208 (a := a194) d5_33 (pc' := 36) rfl (wd hw 125 rfl) (wd hw 126 rfl) (nfS A208 (wd hw 128 rfl)) (wd hw 128 rfl) (wd hw 127 rfl) (by decide) B208.1 pd18 [] [] rfl rfl rfl 0 (Nat.le_of_eq rfl) (CN.pay (W := 0) A208 (m_sbS l Z a0 hw a194 v196 kb196 16 ((es ++ [(46 : Int32)]) ++ []) zc O2 P5 h208 n0 A208.old B208 (by simp only [List.length_append, List.length_cons, List.length_nil]; omega) (by decide) (by simp only [List.length_append, List.length_cons, List.length_nil]; omega) (la (la hes (by decide)) ln)) (wd hw 129 rfl) (wd hw 67 rfl) (by decide) (by decide)) (kc := 2) (ks := 70) (by decide) (by decide) all0 (fun _ => sf0) fun v211 T211 h211 L211 A211 K211 q211 => ?_
  have Q212 : Keep h0 h211 [] := Q210.trans K211 all0
  obtain ⟨x211, t211, rfl, zx211, xg211, tg211, G211⟩ := q211
  show Wp pG e below _ T211 (mkF m 36 _ [(.ref x211)])
  exact f_retRW A211 hEL hlk hret d5_36 rfl rfl (by decide) (by decide) Q212 ⟨x211, t211, rfl, (Nat.le_trans Q210.1 xg211), G211⟩
theorem d41_0 : decode jdk_43_method_25_code 0 = .ok (.aload_n 2, 1) := by decide +kernel
theorem d41_1 : decode jdk_43_method_25_code 1 = .ok (.iconst 0, 1) := by decide +kernel
theorem d41_2 : decode jdk_43_method_25_code 2 = .ok (.baload, 1) := by decide +kernel
theorem d41_3 : decode jdk_43_method_25_code 3 = .ok (.istore 5, 2) := by decide +kernel
theorem d41_5 : decode jdk_43_method_25_code 5 = .ok (.iload_n 1, 1) := by decide +kernel
theorem d41_6 : decode jdk_43_method_25_code 6 = .ok (.iload_n 3, 1) := by decide +kernel
theorem d41_7 : decode jdk_43_method_25_code 7 = .ok (.isub, 1) := by decide +kernel
theorem d41_8 : decode jdk_43_method_25_code 8 = .ok (.istore 6, 2) := by decide +kernel
theorem d41_10 : decode jdk_43_method_25_code 10 = .ok (.iload 4, 2) := by decide +kernel
theorem d41_12 : decode jdk_43_method_25_code 12 = .ok (.istore 7, 2) := by decide +kernel
theorem d41_14 : decode jdk_43_method_25_code 14 = .ok (.iload 7, 2) := by decide +kernel
theorem d41_16 : decode jdk_43_method_25_code 16 = .ok (.iload 6, 2) := by decide +kernel
theorem d41_18 : decode jdk_43_method_25_code 18 = .ok (.if_icmp .gt 101, 3) := by decide +kernel
theorem d41_21 : decode jdk_43_method_25_code 21 = .ok (.aload_n 0, 1) := by decide +kernel
theorem d41_22 : decode jdk_43_method_25_code 22 = .ok (.iload 7, 2) := by decide +kernel
theorem d41_24 : decode jdk_43_method_25_code 24 = .ok (.baload, 1) := by decide +kernel
theorem d41_25 : decode jdk_43_method_25_code 25 = .ok (.iload 5, 2) := by decide +kernel
theorem d41_27 : decode jdk_43_method_25_code 27 = .ok (.if_icmp .eq 25, 3) := by decide +kernel
theorem d41_52 : decode jdk_43_method_25_code 52 = .ok (.iload 7, 2) := by decide +kernel
theorem d41_54 : decode jdk_43_method_25_code 54 = .ok (.iload 6, 2) := by decide +kernel
theorem d41_56 : decode jdk_43_method_25_code 56 = .ok (.if_icmp .gt 57, 3) := by decide +kernel
theorem d41_59 : decode jdk_43_method_25_code 59 = .ok (.iload 7, 2) := by decide +kernel
theorem d41_61 : decode jdk_43_method_25_code 61 = .ok (.iconst 1, 1) := by decide +kernel
theorem d41_62 : decode jdk_43_method_25_code 62 = .ok (.iadd, 1) := by decide +kernel
theorem d41_63 : decode jdk_43_method_25_code 63 = .ok (.istore 8, 2) := by decide +kernel
theorem d41_65 : decode jdk_43_method_25_code 65 = .ok (.iload 8, 2) := by decide +kernel
theorem d41_67 : decode jdk_43_method_25_code 67 = .ok (.iload_n 3, 1) := by decide +kernel
theorem d41_68 : decode jdk_43_method_25_code 68 = .ok (.iadd, 1) := by decide +kernel
theorem d41_69 : decode jdk_43_method_25_code 69 = .ok (.iconst 1, 1) := by decide +kernel
theorem d41_70 : decode jdk_43_method_25_code 70 = .ok (.isub, 1) := by decide +kernel
theorem d41_71 : decode jdk_43_method_25_code 71 = .ok (.istore 9, 2) := by decide +kernel
theorem d41_73 : decode jdk_43_method_25_code 73 = .ok (.iconst 1, 1) := by decide +kernel
theorem d41_74 : decode jdk_43_method_25_code 74 = .ok (.istore 10, 2) := by decide +kernel
theorem d41_76 : decode jdk_43_method_25_code 76 = .ok (.iload 8, 2) := by decide +kernel
theorem d41_78 : decode jdk_43_method_25_code 78 = .ok (.iload 9, 2) := by decide +kernel
theorem d41_80 : decode jdk_43_method_25_code 80 = .ok (.if_icmp .ge 23, 3) := by decide +kernel
theorem d41_103 : decode jdk_43_method_25_code 103 = .ok (.iload 8, 2) := by decide +kernel
theorem d41_105 : decode jdk_43_method_25_code 105 = .ok (.iload 9, 2) := by decide +kernel
theorem d41_107 : decode jdk_43_method_25_code 107 = .ok (.if_icmp .ne 6, 3) := by decide +kernel
theorem d41_110 : decode jdk_43_method_25_code 110 = .ok (.iload 7, 2) := by decide +kernel
theorem d41_112 : decode jdk_43_method_25_code 112 = .ok (.ireturn, 1) := by decide +kernel
theorem d41_30 : decode jdk_43_method_25_code 30 = .ok (.iinc 7 1, 3) := by decide +kernel
theorem d41_33 : decode jdk_43_method_25_code 33 = .ok (.iload 7, 2) := by decide +kernel
theorem d41_35 : decode jdk_43_method_25_code 35 = .ok (.iload 6, 2) := by decide +kernel
theorem d41_37 : decode jdk_43_method_25_code 37 = .ok (.if_icmp .gt 15, 3) := by decide +kernel
theorem d41_113 : decode jdk_43_method_25_code 113 = .ok (.iinc 7 1, 3) := by decide +kernel
theorem d41_116 : decode jdk_43_method_25_code 116 = .ok (.goto (-102), 3) := by decide +kernel
theorem d41_119 : decode jdk_43_method_25_code 119 = .ok (.iconst (-1), 1) := by decide +kernel
theorem d41_120 : decode jdk_43_method_25_code 120 = .ok (.ireturn, 1) := by decide +kernel
set_option maxRecDepth 65536 in
set_option maxHeartbeats 40000000 in
theorem m_xi1 (l : Launch) (Z : State) (a0 : Array Value) (hw : ∀ d ∈ tables_1, d.before a0 Z = true) (t u : Addr) (kb ku : ClassId) (c0 : Int32) (h0 : Heap) (n0 : Nat) (ho : Old Z n0 h0) (V : Arv Z h0 t kb .byte 1 [(.int (StrChars.lo8 c0))] (.int 0)) (D : Arv Z h0 u ku .byte 1 [(.int (StrChars.lo8 46))] (.int 0)) (r0 : ¬ c0 < 0 ∧ ¬ (255 : Int32) < c0) :
    CN l (⟨"java/lang/StringLatin1", "indexOf", "([BI[BII)I"⟩ : MethodName) jdk_43_method_25_code 11 (some .int) [] ({ frames := 0, cells := 0, slots := 0, locals := 0 } : Room) Z n0 h0 #[(.ref t), (.int (1 : Int32)), (.ref u), (.int (1 : Int32)), (.int (0 : Int32))] [] (fun v h => v = some (.int (idxD [c0] 0)) ∧ h = h0) := by
  refine CN.walk (plainFor_of_name pn5) ho (L0 := #[.val (.ref t), .val (.int (1 : Int32)), .val (.ref u), .val (.int (1 : Int32)), .val (.int (0 : Int32)), .unset, .unset, .unset, .unset, .unset, .unset]) (fun m => rfl) ?_
  intro pG e s m below meth cO T hlk hret hnm A0
  have K0 : Keep h0 h0 [] := Keep.refl _ _
  refine f_aloadN A0 d41_0 (pc' := 1) rfl rfl rfl ?_
  refine f_iconst A0 d41_1 (pc' := 2) rfl 0 rfl ?_
  refine f_baload A0 d41_2 (pc' := 3) rfl D ⟨by decide, by decide⟩ rfl ?_
  refine f_istore A0 d41_3 (pc' := 5) rfl (L' := #[.val (.ref t), .val (.int (1 : Int32)), .val (.ref u), .val (.int (1 : Int32)), .val (.int (0 : Int32)), .val (.int (StrChars.lo8 46)), .unset, .unset, .unset, .unset, .unset]) rfl ?_
  refine f_iloadN A0 d41_5 (pc' := 6) rfl rfl ?_
  refine f_iloadN A0 d41_6 (pc' := 7) rfl rfl ?_
  refine f_isub A0 d41_7 (pc' := 8) rfl (0 : Int32) (by decide) ?_
  refine f_istore A0 d41_8 (pc' := 10) rfl (L' := #[.val (.ref t), .val (.int (1 : Int32)), .val (.ref u), .val (.int (1 : Int32)), .val (.int (0 : Int32)), .val (.int (StrChars.lo8 46)), .val (.int (0 : Int32)), .unset, .unset, .unset, .unset]) rfl ?_
  refine f_iload A0 d41_10 (pc' := 12) rfl rfl ?_
  refine f_istore A0 d41_12 (pc' := 14) rfl (L' := #[.val (.ref t), .val (.int (1 : Int32)), .val (.ref u), .val (.int (1 : Int32)), .val (.int (0 : Int32)), .val (.int (StrChars.lo8 46)), .val (.int (0 : Int32)), .val (.int (0 : Int32)), .unset, .unset, .unset]) rfl ?_
  refine f_iload A0 d41_14 (pc' := 16) rfl rfl ?_
  refine f_iload A0 d41_16 (pc' := 18) rfl rfl ?_
  refine f_icN A0 d41_18 (flt (by decide : ¬ (0 : Int32) < (0 : Int32))).2.2.1 (pc' := 21) rfl ?_
  refine f_aloadN A0 d41_21 (pc' := 22) rfl rfl rfl ?_
  refine f_iload A0 d41_22 (pc' := 24) rfl rfl ?_
  refine f_baload A0 d41_24 (pc' := 25) rfl V ⟨by decide, by decide⟩ rfl ?_
  refine f_iload A0 d41_25 (pc' := 27) rfl rfl ?_
  by_cases q0 : c0 = 46
  · refine f_icY A0 d41_27 (teq ((lo46 r0).mpr q0)).1 (pc' := 52) (by decide) (by decide) ?_
    refine f_iload A0 d41_52 (pc' := 54) rfl rfl ?_
    refine f_iload A0 d41_54 (pc' := 56) rfl rfl ?_
    refine f_icN A0 d41_56 (flt (by decide : ¬ (0 : Int32) < (0 : Int32))).2.2.1 (pc' := 59) rfl ?_
    refine f_iload A0 d41_59 (pc' := 61) rfl rfl ?_
    refine f_iconst A0 d41_61 (pc' := 62) rfl 1 rfl ?_
    refine f_iadd A0 d41_62 (pc' := 63) rfl (1 : Int32) (by decide) ?_
    refine f_istore A0 d41_63 (pc' := 65) rfl (L' := #[.val (.ref t), .val (.int (1 : Int32)), .val (.ref u), .val (.int (1 : Int32)), .val (.int (0 : Int32)), .val (.int (StrChars.lo8 46)), .val (.int (0 : Int32)), .val (.int (0 : Int32)), .val (.int (1 : Int32)), .unset, .unset]) rfl ?_
    refine f_iload A0 d41_65 (pc' := 67) rfl rfl ?_
    refine f_iloadN A0 d41_67 (pc' := 68) rfl rfl ?_
    refine f_iadd A0 d41_68 (pc' := 69) rfl (2 : Int32) (by decide) ?_
    refine f_iconst A0 d41_69 (pc' := 70) rfl 1 rfl ?_
    refine f_isub A0 d41_70 (pc' := 71) rfl (1 : Int32) (by decide) ?_
    refine f_istore A0 d41_71 (pc' := 73) rfl (L' := #[.val (.ref t), .val (.int (1 : Int32)), .val (.ref u), .val (.int (1 : Int32)), .val (.int (0 : Int32)), .val (.int (StrChars.lo8 46)), .val (.int (0 : Int32)), .val (.int (0 : Int32)), .val (.int (1 : Int32)), .val (.int (1 : Int32)), .unset]) rfl ?_
    refine f_iconst A0 d41_73 (pc' := 74) rfl 1 rfl ?_
    refine f_istore A0 d41_74 (pc' := 76) rfl (L' := #[.val (.ref t), .val (.int (1 : Int32)), .val (.ref u), .val (.int (1 : Int32)), .val (.int (0 : Int32)), .val (.int (StrChars.lo8 46)), .val (.int (0 : Int32)), .val (.int (0 : Int32)), .val (.int (1 : Int32)), .val (.int (1 : Int32)), .val (.int (1 : Int32))]) rfl ?_
    refine f_iload A0 d41_76 (pc' := 78) rfl rfl ?_
    refine f_iload A0 d41_78 (pc' := 80) rfl rfl ?_
    refine f_icY A0 d41_80 (flt (by decide : ¬ (1 : Int32) < (1 : Int32))).2.1 (pc' := 103) (by decide) (by decide) ?_
    refine f_iload A0 d41_103 (pc' := 105) rfl rfl ?_
    refine f_iload A0 d41_105 (pc' := 107) rfl rfl ?_
    refine f_icN A0 d41_107 (teq (by decide : (1 : Int32) = (1 : Int32))).2 (pc' := 110) rfl ?_
    refine f_iload A0 d41_110 (pc' := 112) rfl rfl ?_
    exact f_retIN A0 hlk hret d41_112 (by decide) (by decide) K0 ⟨by simp [idxD, *], rfl⟩
  · refine f_icN A0 d41_27 (feq (fun q => q0 ((lo46 r0).mp q))).1 (pc' := 30) rfl ?_
    refine f_iinc A0 d41_30 (pc' := 33) rfl rfl (1 : Int32) (by decide) (L' := #[.val (.ref t), .val (.int (1 : Int32)), .val (.ref u), .val (.int (1 : Int32)), .val (.int (0 : Int32)), .val (.int (StrChars.lo8 46)), .val (.int (0 : Int32)), .val (.int (1 : Int32)), .unset, .unset, .unset]) rfl ?_
    refine f_iload A0 d41_33 (pc' := 35) rfl rfl ?_
    refine f_iload A0 d41_35 (pc' := 37) rfl rfl ?_
    refine f_icY A0 d41_37 (tlt (by decide : (0 : Int32) < (1 : Int32))).2.2.1 (pc' := 52) (by decide) (by decide) ?_
    refine f_iload A0 d41_52 (pc' := 54) rfl rfl ?_
    refine f_iload A0 d41_54 (pc' := 56) rfl rfl ?_
    refine f_icY A0 d41_56 (tlt (by decide : (0 : Int32) < (1 : Int32))).2.2.1 (pc' := 113) (by decide) (by decide) ?_
    refine f_iinc A0 d41_113 (pc' := 116) rfl rfl (2 : Int32) (by decide) (L' := #[.val (.ref t), .val (.int (1 : Int32)), .val (.ref u), .val (.int (1 : Int32)), .val (.int (0 : Int32)), .val (.int (StrChars.lo8 46)), .val (.int (0 : Int32)), .val (.int (2 : Int32)), .unset, .unset, .unset]) rfl ?_
    refine f_goto A0 d41_116 (pc' := 14) (by decide) (by decide) ?_
    refine f_iload A0 d41_14 (pc' := 16) rfl rfl ?_
    refine f_iload A0 d41_16 (pc' := 18) rfl rfl ?_
    refine f_icY A0 d41_18 (tlt (by decide : (0 : Int32) < (2 : Int32))).2.2.1 (pc' := 119) (by decide) (by decide) ?_
    refine f_iconst A0 d41_119 (pc' := 120) rfl (-1) rfl ?_
    exact f_retIN A0 hlk hret d41_120 (by decide) (by decide) K0 ⟨by simp [idxD, *], rfl⟩
theorem d11_14 : decode jdk_43_method_24_code 14 = .ok (.aload_n 0, 1) := by decide +kernel
theorem d11_15 : decode jdk_43_method_24_code 15 = .ok (.aload_n 0, 1) := by decide +kernel
theorem d11_16 : decode jdk_43_method_24_code 16 = .ok (.arraylength, 1) := by decide +kernel
theorem d11_17 : decode jdk_43_method_24_code 17 = .ok (.aload_n 1, 1) := by decide +kernel
theorem d11_18 : decode jdk_43_method_24_code 18 = .ok (.aload_n 1, 1) := by decide +kernel
theorem d11_19 : decode jdk_43_method_24_code 19 = .ok (.arraylength, 1) := by decide +kernel
theorem d11_20 : decode jdk_43_method_24_code 20 = .ok (.iconst 0, 1) := by decide +kernel
theorem d11_21 : decode jdk_43_method_24_code 21 = .ok (.invokestatic 99, 3) := by decide +kernel
theorem pd23 : parseMethodDescriptor "([BI[BII)I" = some ⟨[(.array .byte), .int, (.array .byte), .int, .int], some .int⟩ := by decide +kernel
theorem d11_24 : decode jdk_43_method_24_code 24 = .ok (.ireturn, 1) := by decide +kernel
set_option maxRecDepth 65536 in
set_option maxHeartbeats 40000000 in
theorem m_xl1 (l : Launch) (Z : State) (a0 : Array Value) (hw : ∀ d ∈ tables_1, d.before a0 Z = true) (t u : Addr) (kb ku : ClassId) (c0 : Int32) (h0 : Heap) (n0 : Nat) (ho : Old Z n0 h0) (V : Arv Z h0 t kb .byte 1 [(.int (StrChars.lo8 c0))] (.int 0)) (D : Arv Z h0 u ku .byte 1 [(.int (StrChars.lo8 46))] (.int 0)) (r0 : ¬ c0 < 0 ∧ ¬ (255 : Int32) < c0) :
    CN l (⟨"java/lang/StringLatin1", "indexOf", "([B[B)I"⟩ : MethodName) jdk_43_method_24_code 2 (some .int) [] ({ frames := 1, cells := 0, slots := 0, locals := 30 } : Room) Z n0 h0 #[(.ref t), (.ref u)] [] (fun v h => v = some (.int (idxD [c0] 0)) ∧ h = h0) := by
  refine CN.walk (plainFor_of_name pn5) ho (L0 := #[.val (.ref t), .val (.ref u)]) (fun m => rfl) ?_
  intro pG e s m below meth cO T hlk hret hnm A0
  have K0 : Keep h0 h0 [] := Keep.refl _ _
  refine f_aloadN A0 d11_0 (pc' := 1) rfl rfl rfl ?_
  refine f_arraylength A0 d11_1 (pc' := 2) rfl D ?_
  refine f_ifY A0 d11_2 ((if0 _ _).trans (feq (by decide : ¬ (1 : Int32) = (0 : Int32))).2) (pc' := 7) (by decide) (by decide) ?_
  refine f_aloadN A0 d11_7 (pc' := 8) rfl rfl rfl ?_
  refine f_arraylength A0 d11_8 (pc' := 9) rfl V ?_
  refine f_ifY A0 d11_9 ((if0 _ _).trans (feq (by decide : ¬ (1 : Int32) = (0 : Int32))).2) (pc' := 14) (by decide) (by decide) ?_
  refine f_aloadN A0 d11_14 (pc' := 15) rfl rfl rfl ?_
  refine f_aloadN A0 d11_15 (pc' := 16) rfl rfl rfl ?_
  refine f_arraylength A0 d11_16 (pc' := 17) rfl V ?_
  refine f_aloadN A0 d11_17 (pc' := 18) rfl rfl rfl ?_
  refine f_aloadN A0 d11_18 (pc' := 19) rfl rfl rfl ?_
  refine f_arraylength A0 d11_19 (pc' := 20) rfl D ?_
  refine f_iconst A0 d11_20 (pc' := 21) rfl 0 rfl ?_
  refine f_callS A0 d11_21 (pc' := 24) rfl (wd hw 203 rfl) (wd hw 204 rfl) (wd hw 63 rfl) (wd hw 205 rfl) (by decide) pd23 [(.ref t), (.int (1 : Int32)), (.ref u), (.int (1 : Int32)), (.int (0 : Int32))] [] rfl rfl rfl 0 (Nat.le_of_eq rfl) (CN.pay (W := 0) A0 (m_xi1 l Z a0 hw t u kb ku c0 h0 n0 A0.old V D r0) (wd hw 205 rfl) (wd hw 63 rfl) (by decide) (by decide)) (kc := 0) (ks := 0) (by decide) (by decide) all0 (fun q => nomatch q) fun v213 T213 h213 L213 A213 K213 q213 => ?_
  obtain ⟨rfl, hh213⟩ := q213
  obtain rfl := hh213.symm
  show Wp pG e below _ T213 (mkF m 24 _ [(.int (idxD [c0] 0))])
  exact f_retIN A213 hlk hret d11_24 (by decide) (by decide) K0 ⟨rfl, rfl⟩
set_option maxRecDepth 65536 in
set_option maxHeartbeats 40000000 in
theorem m_xs1 (l : Launch) (Z : State) (a0 : Array Value) (hw : ∀ d ∈ tables_1, d.before a0 Z = true) (x t d u : Addr) (c0 : Int32) (zc : Int32) (O2 : Sta Z Z.heap "java/lang/String" "COMPACT_STRINGS" "Z" (.int zc)) (P5 : ¬ zc = 0) (h0 : Heap) (n0 : Nat) (ho : Old Z n0 h0) (F : Str Z h0 x t [c0]) (G : Str Z h0 d u [46]) (r0 : ¬ c0 < 0 ∧ ¬ (255 : Int32) < c0) :
    CN l (⟨"java/lang/String", "indexOf", "(Ljava/lang/String;)I"⟩ : MethodName) jdk_42_method_84_code 3 (some .int) [] ({ frames := 2, cells := 0, slots := 0, locals := 50 } : Room) Z n0 h0 #[(.ref x), (.ref d)] [] (fun v h => v = some (.int (idxD [c0] 0)) ∧ h = h0) := by
  refine CN.walk (plainFor_of_name pn0) ho (L0 := #[.val (.ref x), .val (.ref d), .unset]) (fun m => rfl) ?_
  intro pG e s m below meth cO T hlk hret hnm A0
  have K0 : Keep h0 h0 [] := Keep.refl _ _
  obtain ⟨kb214, fv214, fc214, av214⟩ := F.open (lc r0.2 ln)
  have av214 : Arv Z h0 t kb214 .byte (1 : Int32) [(.int (StrChars.lo8 c0))] (.int 0) := av214
  obtain ⟨kb215, fv215, fc215, av215⟩ := G.open (by decide)
  have av215 : Arv Z h0 u kb215 .byte (1 : Int32) [(.int (StrChars.lo8 (46 : Int32)))] (.int 0) := av215
  refine f_aloadN A0 d8_0 (pc' := 1) rfl rfl rfl ?_
  refine f_callV A0 (a := x) d8_1 (pc' := 4) rfl (wd hw 50 rfl) (wd hw 51 rfl) (nfS A0 (wd hw 53 rfl)) (wd hw 53 rfl) (wd hw 52 rfl) (by decide) F.exa pd2 [] [] rfl rfl rfl 0 (Nat.le_of_eq rfl) (CN.pay (W := 0) A0 (m_cod0 l Z a0 hw x zc O2 P5 h0 n0 A0.old fc214) (wd hw 54 rfl) (wd hw 6 rfl) (by decide) (by decide)) (kc := 0) (ks := 0) (by decide) (by decide) all0 (fun q => nomatch q) fun v216 T216 h216 L216 A216 K216 q216 => ?_
  obtain ⟨rfl, hh216⟩ := q216
  obtain rfl := hh216.symm
  show Wp pG e below _ T216 (mkF m 4 _ [(.int (0 : Int32))])
  refine f_istoreN A216 d8_4 (pc' := 5) rfl (L' := #[.val (.ref x), .val (.ref d), .val (.int (0 : Int32))]) rfl ?_
  refine f_iloadN A216 d8_5 (pc' := 6) rfl rfl ?_
  refine f_aloadN A216 d8_6 (pc' := 7) rfl rfl rfl ?_
  refine f_callV A216 (a := d) d8_7 (pc' := 10) rfl (wd hw 50 rfl) (wd hw 51 rfl) (nfS A216 (wd hw 53 rfl)) (wd hw 53 rfl) (wd hw 52 rfl) (by decide) G.exa pd2 [] [(.int (0 : Int32))] rfl rfl rfl 1 (Nat.le_of_eq rfl) (CN.pay (W := 1) A216 (m_cod0 l Z a0 hw d zc O2 P5 h0 n0 A216.old fc215) (wd hw 54 rfl) (wd hw 6 rfl) (by decide) (by decide)) (kc := 0) (ks := 0) (by decide) (by decide) all0 (fun q => nomatch q) fun v217 T217 h217 L217 A217 K217 q217 => ?_
  obtain ⟨rfl, hh217⟩ := q217
  obtain rfl := hh217.symm
  show Wp pG e below _ T217 (mkF m 10 _ [(.int (0 : Int32)), (.int (0 : Int32))])
  refine f_icN A217 d8_10 (teq (by decide : (0 : Int32) = (0 : Int32))).2 (pc' := 13) rfl ?_
  refine f_aloadN A217 d8_13 (pc' := 14) rfl rfl rfl ?_
  refine f_callV A217 (a := x) d8_14 (pc' := 17) rfl (wd hw 56 rfl) (wd hw 57 rfl) (nfS A217 (wd hw 59 rfl)) (wd hw 59 rfl) (wd hw 58 rfl) (by decide) F.exa pd12 [] [] rfl rfl rfl 0 (Nat.le_of_eq rfl) (CN.pay (W := 0) A217 (m_isLat l Z a0 hw x zc O2 P5 h0 n0 A217.old fc214) (wd hw 60 rfl) (wd hw 6 rfl) (by decide) (by decide)) (kc := 0) (ks := 0) (by decide) (by decide) all0 (fun q => nomatch q) fun v218 T218 h218 L218 A218 K218 q218 => ?_
  obtain ⟨rfl, hh218⟩ := q218
  obtain rfl := hh218.symm
  show Wp pG e below _ T218 (mkF m 17 _ [(.int (1 : Int32))])
  refine f_ifN A218 d8_17 ((if0 _ _).trans (feq (by decide : ¬ (1 : Int32) = (0 : Int32))).1) (pc' := 20) rfl ?_
  refine f_aloadN A218 d8_20 (pc' := 21) rfl rfl rfl ?_
  refine f_getF A218 d8_21 (pc' := 24) rfl (host := "") (Or.inl (wd hw 24 rfl)) Via.refl fv214 fun T219 A219 => ?_
  refine f_aloadN A219 d8_24 (pc' := 25) rfl rfl rfl ?_
  refine f_getF A219 d8_25 (pc' := 28) rfl (host := "") (Or.inl (wd hw 24 rfl)) Via.refl fv215 fun T220 A220 => ?_
  refine f_callS A220 d8_28 (pc' := 31) rfl (wd hw 61 rfl) (wd hw 62 rfl) (wd hw 63 rfl) (wd hw 64 rfl) (by decide) pd17 [(.ref t), (.ref u)] [] rfl rfl rfl 0 (Nat.le_of_eq rfl) (CN.pay (W := 0) A220 (m_xl1 l Z a0 hw t u kb214 kb215 c0 h0 n0 A220.old av214 av215 r0) (wd hw 64 rfl) (wd hw 63 rfl) (by decide) (by decide)) (kc := 0) (ks := 0) (by decide) (by decide) all0 (fun q => nomatch q) fun v221 T221 h221 L221 A221 K221 q221 => ?_
  obtain ⟨rfl, hh221⟩ := q221
  obtain rfl := hh221.symm
  show Wp pG e below _ T221 (mkF m 31 _ [(.int (idxD [c0] 0))])
  refine f_goto A221 d8_31 (pc' := 45) (by decide) (by decide) ?_
  exact f_retIN A221 hlk hret d8_45 (by decide) (by decide) K0 ⟨rfl, rfl⟩
set_option maxRecDepth 65536 in
set_option maxHeartbeats 40000000 in
theorem m_con1 (l : Launch) (Z : State) (a0 : Array Value) (hw : ∀ d ∈ tables_1, d.before a0 Z = true) (x t d u : Addr) (c0 : Int32) (zc : Int32) (O2 : Sta Z Z.heap "java/lang/String" "COMPACT_STRINGS" "Z" (.int zc)) (P5 : ¬ zc = 0) (r : Int32) (h0 : Heap) (n0 : Nat) (ho : Old Z n0 h0) (F : Str Z h0 x t [c0]) (G : Str Z h0 d u [46]) (r0 : ¬ c0 < 0 ∧ ¬ (255 : Int32) < c0) (hr : (if idxD [c0] 0 < 0 then 0 else 1) = r) :
    CN l (⟨"java/lang/String", "contains", "(Ljava/lang/CharSequence;)Z"⟩ : MethodName) jdk_42_method_97_code 2 (some .boolean) [] ({ frames := 3, cells := 0, slots := 0, locals := 70 } : Room) Z n0 h0 #[(.ref x), (.ref d)] [] (fun v h => v = some (.int r) ∧ h = h0) := by
  refine CN.walk (plainFor_of_name pn0) ho (L0 := #[.val (.ref x), .val (.ref d)]) (fun m => rfl) ?_
  intro pG e s m below meth cO T hlk hret hnm A0
  have K0 : Keep h0 h0 [] := Keep.refl _ _
  refine f_aloadN A0 d6_0 (pc' := 1) rfl rfl rfl ?_
  refine f_aloadN A0 d6_1 (pc' := 2) rfl rfl rfl ?_
  refine f_callF A0 (a := d) d6_2 (pc' := 7) rfl (wd hw 36 rfl) (wd hw 37 rfl) (wd hw 38 rfl) (by first | rfl | decide) (wd hw 39 rfl) (wd hw 40 rfl) (wd hw 41 rfl) (wd hw 42 rfl) (wd hw 43 rfl) (by decide) G.exa pd18 [] [(.ref x)] rfl rfl rfl 1 (Nat.le_of_eq rfl) (CN.pay (W := 1) A0 (m_toS l Z a0 hw d h0 n0 A0.old) (wd hw 44 rfl) (wd hw 6 rfl) (by decide) (by decide)) (kc := 0) (ks := 0) (by decide) (by decide) all0 (fun q => nomatch q) fun v222 T222 h222 L222 A222 K222 q222 => ?_
  obtain ⟨rfl, hh222⟩ := q222
  obtain rfl := hh222.symm
  show Wp pG e below _ T222 (mkF m 7 _ [(.ref d), (.ref x)])
  refine f_callV A222 (a := x) d6_7 (pc' := 10) rfl (wd hw 45 rfl) (wd hw 46 rfl) (nfS A222 (wd hw 48 rfl)) (wd hw 48 rfl) (wd hw 47 rfl) (by decide) F.exa pd19 [(.ref d)] [] rfl rfl rfl 0 (Nat.le_of_eq rfl) (CN.pay (W := 0) A222 (m_xs1 l Z a0 hw x t d u c0 zc O2 P5 h0 n0 A222.old F G r0) (wd hw 49 rfl) (wd hw 6 rfl) (by decide) (by decide)) (kc := 0) (ks := 0) (by decide) (by decide) all0 (fun q => nomatch q) fun v223 T223 h223 L223 A223 K223 q223 => ?_
  obtain ⟨rfl, hh223⟩ := q223
  obtain rfl := hh223.symm
  show Wp pG e below _ T223 (mkF m 10 _ [(.int (idxD [c0] 0))])
  by_cases q : (idxD [c0] 0) < (0 : Int32)
  · refine f_ifY A223 d6_10 ((if0 _ _).trans (tlt q).1) (pc' := 17) (by decide) (by decide) ?_
    refine f_iconst A223 d6_17 (pc' := 18) rfl 0 rfl ?_
    exact f_retBN A223 hlk hret d6_18 (by decide) (0 : Int32) (by decide) (by decide) (by decide) K0 ⟨by rw [← hr, if_pos q], rfl⟩
  · refine f_ifN A223 d6_10 ((if0 _ _).trans (flt q).1) (pc' := 13) rfl ?_
    refine f_iconst A223 d6_13 (pc' := 14) rfl 1 rfl ?_
    refine f_goto A223 d6_14 (pc' := 18) (by decide) (by decide) ?_
    exact f_retBN A223 hlk hret d6_18 (by decide) (1 : Int32) (by decide) (by decide) (by decide) K0 ⟨by rw [← hr, if_neg q], rfl⟩
set_option maxRecDepth 65536 in
set_option maxHeartbeats 40000000 in
theorem m_qd1 (l : Launch) (Z : State) (a0 : Array Value) (hw : ∀ d ∈ tables_1, d.before a0 Z = true) (z x t : Addr) (c0 : Int32) (zc : Int32) (O2 : Sta Z Z.heap "java/lang/String" "COMPACT_STRINGS" "Z" (.int zc)) (P5 : ¬ zc = 0) (h0 : Heap) (n0 : Nat) (ho : Old Z n0 h0) (hEL : EW Z a0 ELs) (F : Str Z h0 x t [c0]) (r0 : ¬ c0 < 0 ∧ ¬ (255 : Int32) < c0) (hdot : (if idxD [c0] 0 < 0 then (0 : Int32) else 1) = 1) :
    CW l (⟨"com/example/mapwright/mapwright/config/MapperReader", "qualified", "(Ljava/lang/String;Ljava/lang/String;)Ljava/lang/String;"⟩ : MethodName) prog_26_method_11_code 2 (some (.object "java/lang/String")) [] ({ frames := 4, cells := 2, slots := 8, locals := 90 } : Room) Z ELs [] n0 h0 #[(.ref z), (.ref x)] [] (fun v h => v = some (.ref x)) := by
  refine CW.walk (plainFor_of_name pn6) ho (L0 := #[.val (.ref z), .val (.ref x)]) (fun m => rfl) ?_
  intro pG e s m below meth cO T hlk hret hnm hSL A0
  have K0 : Keep h0 h0 [] := Keep.refl _ _
  refine f_aloadN A0 d5_0 (pc' := 1) rfl rfl rfl ?_
  refine f_ldcC A0 d5_1 (pc' := 3) rfl (by decide) (vs := [(.int (46 : Int32))]) (z := 1) ⟨by decide, by decide⟩ (by decide) (by decide) (wd hw 30 rfl) (strA hw) hEL (n := 4) (by decide) (by decide) (by decide) (by decide) fun a224 b224 kb224 vm224 T224 h224 A224 E224 C224 Li224 x224 fc224 fv224 av224 hs224 => ?_
  have G224 : Str Z h224 a224 b224 [(46 : Int32)] := strLit x224 fc224 fv224 av224 (Or.inl ⟨rfl, rfl, rfl, by decide⟩) (by decide) (by decide)
  have Q225 : Keep h0 h224 [] := K0.ext E224
  have c226 := (F.ext E224)
  have c228 := (F.exa.ext E224)
  refine f_callV A224 (a := x) d5_3 (pc' := 6) rfl (wd hw 31 rfl) (wd hw 32 rfl) (nfS A224 (wd hw 34 rfl)) (wd hw 34 rfl) (wd hw 33 rfl) (by decide) c228 pd20 [(.ref a224)] [] rfl rfl rfl 0 (Nat.le_of_eq rfl) (CN.pay (W := 0) A224 (m_con1 l Z a0 hw x t a224 b224 c0 zc O2 P5 1 h224 n0 A224.old c226 G224 r0 hdot) (wd hw 35 rfl) (wd hw 6 rfl) (by decide) (by decide)) (kc := 0) (ks := 0) (by decide) (by decide) all0 (fun _ => sf0) fun v227 T227 h227 L227 A227 K227 q227 => ?_
  obtain ⟨rfl, hh227⟩ := q227
  obtain rfl := hh227.symm
  show Wp pG e below _ T227 (mkF m 6 _ [(.int (1 : Int32))])
  refine f_ifN A227 d5_6 ((if0 _ _).trans (feq (by decide : ¬ (1 : Int32) = (0 : Int32))).1) (pc' := 9) rfl ?_
  refine f_aloadN A227 d5_9 (pc' := 10) rfl rfl rfl ?_
  refine f_goto A227 d5_10 (pc' := 36) (by decide) (by decide) ?_
  exact f_retRW A227 hEL hlk hret d5_36 rfl rfl (by decide) (by decide) Q225 rfl
set_option maxRecDepth 65536 in
set_option maxHeartbeats 40000000 in
theorem m_qn1 (l : Launch) (Z : State) (a0 : Array Value) (hw : ∀ d ∈ tables_1, d.before a0 Z = true) (z y x t : Addr) (es : List Int32) (c0 : Int32) (zc : Int32) (O2 : Sta Z Z.heap "java/lang/String" "COMPACT_STRINGS" "Z" (.int zc)) (P5 : ¬ zc = 0) (h0 : Heap) (n0 : Nat) (ho : Old Z n0 h0) (hEL : EW Z a0 ELs) (Fz : Str Z h0 z y es) (F : Str Z h0 x t [c0]) (hes : ∀ c ∈ es, ¬ c < 0 ∧ ¬ (255 : Int32) < c) (hle : es.length ≤ 3) (r0 : ¬ c0 < 0 ∧ ¬ (255 : Int32) < c0) (hdot : (if idxD [c0] 0 < 0 then (0 : Int32) else 1) = 0) :
    CW l (⟨"com/example/mapwright/mapwright/config/MapperReader", "qualified", "(Ljava/lang/String;Ljava/lang/String;)Ljava/lang/String;"⟩ : MethodName) prog_26_method_11_code 2 (some (.object "java/lang/String")) [] ({ frames := 7, cells := 9, slots := 150, locals := 190 } : Room) Z ELs [] n0 h0 #[(.ref z), (.ref x)] [] (fun v h => ∃ (a b : Addr), v = some (.ref a) ∧ h0.size ≤ a ∧ Str Z h a b (es ++ [(46 : Int32)] ++ [c0])) := by
  refine CW.walk (plainFor_of_name pn6) ho (L0 := #[.val (.ref z), .val (.ref x)]) (fun m => rfl) ?_
  intro pG e s m below meth cO T hlk hret hnm hSL A0
  have K0 : Keep h0 h0 [] := Keep.refl _ _
  refine f_aloadN A0 d5_0 (pc' := 1) rfl rfl rfl ?_
  refine f_ldcC A0 d5_1 (pc' := 3) rfl (by decide) (vs := [(.int (46 : Int32))]) (z := 1) ⟨by decide, by decide⟩ (by decide) (by decide) (wd hw 30 rfl) (strA hw) hEL (n := 4) (by decide) (by decide) (by decide) (by decide) fun a229 b229 kb229 vm229 T229 h229 A229 E229 C229 Li229 x229 fc229 fv229 av229 hs229 => ?_
  have G229 : Str Z h229 a229 b229 [(46 : Int32)] := strLit x229 fc229 fv229 av229 (Or.inl ⟨rfl, rfl, rfl, by decide⟩) (by decide) (by decide)
  have Q230 : Keep h0 h229 [] := K0.ext E229
  have c231 := (F.ext E229)
  have c233 := (F.exa.ext E229)
  refine f_callV A229 (a := x) d5_3 (pc' := 6) rfl (wd hw 31 rfl) (wd hw 32 rfl) (nfS A229 (wd hw 34 rfl)) (wd hw 34 rfl) (wd hw 33 rfl) (by decide) c233 pd20 [(.ref a229)] [] rfl rfl rfl 0 (Nat.le_of_eq rfl) (CN.pay (W := 0) A229 (m_con1 l Z a0 hw x t a229 b229 c0 zc O2 P5 0 h229 n0 A229.old c231 G229 r0 hdot) (wd hw 35 rfl) (wd hw 6 rfl) (by decide) (by decide)) (kc := 0) (ks := 0) (by decide) (by decide) all0 (fun _ => sf0) fun v232 T232 h232 L232 A232 K232 q232 => ?_
  obtain ⟨rfl, hh232⟩ := q232
  obtain rfl := hh232.symm
  show Wp pG e below _ T232 (mkF m 6 _ [(.int (0 : Int32))])
  refine f_ifY A232 d5_6 ((if0 _ _).trans (teq (by decide : (0 : Int32) = (0 : Int32))).1) (pc' := 13) (by decide) (by decide) ?_
  refine f_new A232 d5_13 (pc' := 16) rfl (wd hw 65 rfl) (wd hw 66 rfl) (wd hw 67 rfl) (by decide) (by decide) fun a234 T234 h234 g234 A234 E234 X234 D234 => ?_
  have z234 : n0 ≤ a234 := Nat.le_trans A232.sz (Nat.le_of_eq g234.symm)
  have y234 : h0.size ≤ a234 := Nat.le_trans Q230.1 (Nat.le_of_eq g234.symm)
  have Q235 : Keep h0 h234 [] := Q230.ext E234
  refine f_dup A234 d5_16 (pc' := 17) rfl rfl ?_
  refine f_callI A234 (a := a234) d5_17 (pc' := 20) rfl rfl (wd hw 68 rfl) (wd hw 69 rfl) (wd hw 70 rfl) (by decide) pd21 [] [(.ref a234)] rfl rfl rfl 1 (Nat.le_of_eq rfl) (CN.pay (W := 1) A234 (m_sbI l Z a0 hw a234 zc O2 P5 h234 n0 A234.old X234 (show Fld Z h234 a234 "java/lang/AbstractStringBuilder" "value" "[B" .null from D234 (Or.inl (wd hw 80 rfl)) (ty := (.array .byte)) (by decide)) (show Fld Z h234 a234 "java/lang/AbstractStringBuilder" "coder" "B" (.int (0 : Int32)) from D234 (Or.inl (wd hw 82 rfl)) (ty := .byte) (by decide)) (show Fld Z h234 a234 "java/lang/AbstractStringBuilder" "count" "I" (.int (0 : Int32)) from D234 (Or.inl (wd hw 99 rfl)) (ty := .int) (by decide)) z234) (wd hw 70 rfl) (wd hw 67 rfl) (by decide) (by decide)) (kc := 1) (ks := 16) (by decide) (by decide) (allS z234 all0) (fun _ => (sfS (Safe.exa A234.hZ.alike X234 (by decide) (by decide)) sf0)) fun v236 T236 h236 L236 A236 K236 q236 => ?_
  have Q237 : Keep h0 h236 [] := Q235.trans K236 (allS (Or.inr y234) all0)
  obtain ⟨rfl, v236, kb236, zv236, gv236, B236⟩ := q236
  show Wp pG e below _ T236 (mkF m 20 _ [(.ref a234)])
  refine f_aloadN A236 d5_20 (pc' := 21) rfl rfl rfl ?_
  have c238 := (((Fz.ext E229).ext E234).keep K236 (ninS (Nat.ne_of_lt (Nat.lt_of_lt_of_le (Nat.lt_of_lt_of_le Fz.lt E229.1) (Nat.le_of_eq g234.symm))) nin0) (ninS (Nat.ne_of_lt (Nat.lt_of_lt_of_le (Nat.lt_of_lt_of_le Fz.lt' E229.1) (Nat.le_of_eq g234.symm))) nin0))
  have s240 := Safe.keep K236 (sfS (Safe.exa A234.hZ.alike X234 (by decide) (by decide)) sf0) (A234.ch rfl).1 (Safe.new gv236)
  refine f_callV A236 (a := a234) d5_21 (pc' := 24) rfl (wd hw 83 rfl) (wd hw 84 rfl) (nfS A236 (wd hw 86 rfl)) (wd hw 86 rfl) (wd hw 85 rfl) (by decide) B236.1 pd22 [(.ref z)] [] rfl rfl rfl 0 (Nat.le_of_eq rfl) (CN.pay (W := 0) A236 (m_sbA l Z a0 hw a234 v236 kb236 16 [] z y es zc O2 P5 h236 n0 A236.old B236 c238 (fun c hc => (hes c hc).2) (by simp only [List.length_append, List.length_cons, List.length_nil]; omega) (by decide) z234 zv236 (Nat.ne_of_lt (Nat.lt_of_lt_of_le X234.lt gv236)) (Nat.ne_of_lt (Nat.lt_of_lt_of_le (Nat.lt_of_lt_of_le (Nat.lt_of_lt_of_le Fz.lt' E229.1) E234.1) gv236))) (wd hw 87 rfl) (wd hw 67 rfl) (by decide) (by decide)) (kc := 0) (ks := 0) (by decide) (by decide) (allS z234 (allS zv236 all0)) (fun _ => (sfS (Safe.exa A236.hZ.alike B236.1 (by decide) (by decide)) (sfS s240 sf0))) fun v239 T239 h239 L239 A239 K239 q239 => ?_
  have Q241 : Keep h0 h239 [] := Q237.trans K239 (allS (Or.inr y234) (allS (Or.inr (Nat.le_trans Q235.1 gv236)) all0))
  obtain ⟨rfl, B239⟩ := q239
  have B239 : SBd Z h239 a234 v236 kb236 16 es := B239
  show Wp pG e below _ T239 (mkF m 24 _ [(.ref a234)])
  refine f_ldcA A239 d5_24 (pc' := 26) rfl (wd hw 30 rfl) Li229 ?_
  have c243 := (((G229.ext E234).keep K236 (ninS (Nat.ne_of_lt (Nat.lt_of_lt_of_le x229.lt (Nat.le_of_eq g234.symm))) nin0) (ninS (Nat.ne_of_lt (Nat.lt_of_lt_of_le av229.lt (Nat.le_of_eq g234.symm))) nin0)).keep K239 (ninS (Nat.ne_of_lt (Nat.lt_of_lt_of_le x229.lt (Nat.le_of_eq g234.symm))) (ninS (Nat.ne_of_lt (Nat.lt_of_lt_of_le (Nat.lt_of_lt_of_le x229.lt E234.1) gv236)) nin0)) (ninS (Nat.ne_of_lt (Nat.lt_of_lt_of_le av229.lt (Nat.le_of_eq g234.symm))) (ninS (Nat.ne_of_lt (Nat.lt_of_lt_of_le (Nat.lt_of_lt_of_le av229.lt E234.1) gv236)) nin0)))
  have c245 := (Safe.keep K239 (sfS (Safe.exa A236.hZ.alike B236.1 (by decide) (by decide)) (sfS s240 sf0)) (A236.ch rfl).1 s240)
  refine f_callV A239 (a := a234) d5_26 (pc' := 29) rfl (wd hw 83 rfl) (wd hw 84 rfl) (nfS A239 (wd hw 86 rfl)) (wd hw 86 rfl) (wd hw 85 rfl) (by decide) B239.1 pd22 [(.ref a229)] [] rfl rfl rfl 0 (Nat.le_of_eq rfl) (CN.pay (W := 0) A239 (m_sbA l Z a0 hw a234 v236 kb236 16 es a229 b229 [(46 : Int32)] zc O2 P5 h239 n0 A239.old B239 c243 (by decide) (by simp only [List.length_append, List.length_cons, List.length_nil]; omega) (by decide) z234 zv236 (Nat.ne_of_lt (Nat.lt_of_lt_of_le X234.lt gv236)) (Nat.ne_of_lt (Nat.lt_of_lt_of_le (Nat.lt_of_lt_of_le av229.lt E234.1) gv236))) (wd hw 87 rfl) (wd hw 67 rfl) (by decide) (by decide)) (kc := 0) (ks := 0) (by decide) (by decide) (allS z234 (allS zv236 all0)) (fun _ => (sfS (Safe.exa A239.hZ.alike B239.1 (by decide) (by decide)) (sfS c245 sf0))) fun v244 T244 h244 L244 A244 K244 q244 => ?_
  have Q246 : Keep h0 h244 [] := Q241.trans K244 (allS (Or.inr y234) (allS (Or.inr (Nat.le_trans Q235.1 gv236)) all0))
  obtain ⟨rfl, B244⟩ := q244
  have B244 : SBd Z h244 a234 v236 kb236 16 (es ++ [(46 : Int32)]) := B244
  show Wp pG e below _ T244 (mkF m 29 _ [(.ref a234)])
  refine f_aloadN A244 d5_29 (pc' := 30) rfl rfl rfl ?_
  have c247 := ((((c231.ext E234).keep K236 (ninS (Nat.ne_of_lt (Nat.lt_of_lt_of_le (Nat.lt_of_lt_of_le F.lt E229.1) (Nat.le_of_eq g234.symm))) nin0) (ninS (Nat.ne_of_lt (Nat.lt_of_lt_of_le (Nat.lt_of_lt_of_le F.lt' E229.1) (Nat.le_of_eq g234.symm))) nin0)).keep K239 (ninS (Nat.ne_of_lt (Nat.lt_of_lt_of_le (Nat.lt_of_lt_of_le F.lt E229.1) (Nat.le_of_eq g234.symm))) (ninS (Nat.ne_of_lt (Nat.lt_of_lt_of_le (Nat.lt_of_lt_of_le (Nat.lt_of_lt_of_le F.lt E229.1) E234.1) gv236)) nin0)) (ninS (Nat.ne_of_lt (Nat.lt_of_lt_of_le (Nat.lt_of_lt_of_le F.lt' E229.1) (Nat.le_of_eq g234.symm))) (ninS (Nat.ne_of_lt (Nat.lt_of_lt_of_le (Nat.lt_of_lt_of_le (Nat.lt_of_lt_of_le F.lt' E229.1) E234.1) gv236)) nin0))).keep K244 (ninS (Nat.ne_of_lt (Nat.lt_of_lt_of_le (Nat.lt_of_lt_of_le F.lt E229.1) (Nat.le_of_eq g234.symm))) (ninS (Nat.ne_of_lt (Nat.lt_of_lt_of_le (Nat.lt_of_lt_of_le (Nat.lt_of_lt_of_le F.lt E229.1) E234.1) gv236)) nin0)) (ninS (Nat.ne_of_lt (Nat.lt_of_lt_of_le (Nat.lt_of_lt_of_le F.lt' E229.1) (Nat.le_of_eq g234.symm))) (ninS (Nat.ne_of_lt (Nat.lt_of_lt_of_le (Nat.lt_of_lt_of_le (Nat.lt_of_lt_of_le F.lt' E229.1) E234.1) gv236)) nin0)))
  have c249 := (Safe.keep K244 (sfS (Safe.exa A239.hZ.alike B239.1 (by decide) (by decide)) (sfS c245 sf0)) (A239.ch rfl).1 c245)
  refine f_callV A244 (a := a234) d5_30 (pc' := 33) rfl (wd hw 83 rfl) (wd hw 84 rfl) (nfS A244 (wd hw 86 rfl)) (wd hw 86 rfl) (wd hw 85 rfl) (by decide) B244.1 pd22 [(.ref x)] [] rfl rfl rfl 0 (Nat.le_of_eq rfl) (CN.pay (W := 0) A244 (m_sbA l Z a0 hw a234 v236 kb236 16 (es ++ [(46 : Int32)]) x t [c0] zc O2 P5 h244 n0 A244.old B244 c247 (lc r0.2 ln) (by simp only [List.length_append, List.length_cons, List.length_nil]; omega) (by decide) z234 zv236 (Nat.ne_of_lt (Nat.lt_of_lt_of_le X234.lt gv236)) (Nat.ne_of_lt (Nat.lt_of_lt_of_le (Nat.lt_of_lt_of_le (Nat.lt_of_lt_of_le F.lt' E229.1) E234.1) gv236))) (wd hw 87 rfl) (wd hw 67 rfl) (by decide) (by decide)) (kc := 0) (ks := 0) (by decide) (by decide) (allS z234 (allS zv236 all0)) (fun _ => (sfS (Safe.exa A244.hZ.alike B244.1 (by decide) (by decide)) (sfS c249 sf0))) fun v248 T248 h248 L248 A248 K248 q248 => ?_
  have Q250 : Keep h0 h248 [] := Q246.trans K248 (allS (Or.inr y234) (allS (Or.inr (Nat.le_trans Q235.1 gv236)) all0))
  obtain ⟨rfl, B248⟩ := q248
  have B248 : SBd Z h248 a234 v236 kb236 16 ((es ++ [(46 : Int32)]) ++ [c0]) := B248
  show Wp pG e below _ T248 (mkF m 33 _ [(.ref a234)])
  refine f_callV A248 (a := a234) d5_33 (pc' := 36) rfl (wd hw 125 rfl) (wd hw 126 rfl) (nfS A248 (wd hw 128 rfl)) (wd hw 128 rfl) (wd hw 127 rfl) (by decide) B248.1 pd18 [] [] rfl rfl rfl 0 (Nat.le_of_eq rfl) (CN.pay (W := 0) A248 (m_sbS l Z a0 hw a234 v236 kb236 16 ((es ++ [(46 : Int32)]) ++ [c0]) zc O2 P5 h248 n0 A248.old B248 (by simp only [List.length_append, List.length_cons, List.length_nil]; omega) (by decide) (by simp only [List.length_append, List.length_cons, List.length_nil]; omega) (la (la hes (by decide)) (lc r0 ln))) (wd hw 129 rfl) (wd hw 67 rfl) (by decide) (by decide)) (kc := 2) (ks := 70) (by decide) (by decide) all0 (fun _ => sf0) fun v251 T251 h251 L251 A251 K251 q251 => ?_
  have Q252 : Keep h0 h251 [] := Q250.trans K251 all0
  obtain ⟨x251, t251, rfl, zx251, xg251, tg251, G251⟩ := q251
  show Wp pG e below _ T251 (mkF m 36 _ [(.ref x251)])
  exact f_retRW A251 hEL hlk hret d5_36 rfl rfl (by decide) (by decide) Q252 ⟨x251, t251, rfl, (Nat.le_trans Q250.1 xg251), G251⟩
theorem d41_40 : decode jdk_43_method_25_code 40 = .ok (.aload_n 0, 1) := by decide +kernel
theorem d41_41 : decode jdk_43_method_25_code 41 = .ok (.iload 7, 2) := by decide +kernel
theorem d41_43 : decode jdk_43_method_25_code 43 = .ok (.baload, 1) := by decide +kernel
theorem d41_44 : decode jdk_43_method_25_code 44 = .ok (.iload 5, 2) := by decide +kernel
theorem d41_46 : decode jdk_43_method_25_code 46 = .ok (.if_icmp .eq 6, 3) := by decide +kernel
theorem d41_49 : decode jdk_43_method_25_code 49 = .ok (.goto (-19), 3) := by decide +kernel
set_option maxRecDepth 65536 in
set_option maxHeartbeats 40000000 in
theorem m_xi2 (l : Launch) (Z : State) (a0 : Array Value) (hw : ∀ d ∈ tables_1, d.before a0 Z = true) (t u : Addr) (kb ku : ClassId) (c0 c1 : Int32) (h0 : Heap) (n0 : Nat) (ho : Old Z n0 h0) (V : Arv Z h0 t kb .byte 2 [(.int (StrChars.lo8 c0)), (.int (StrChars.lo8 c1))] (.int 0)) (D : Arv Z h0 u ku .byte 1 [(.int (StrChars.lo8 46))] (.int 0)) (r0 : ¬ c0 < 0 ∧ ¬ (255 : Int32) < c0) (r1 : ¬ c1 < 0 ∧ ¬ (255 : Int32) < c1) :
    CN l (⟨"java/lang/StringLatin1", "indexOf", "([BI[BII)I"⟩ : MethodName) jdk_43_method_25_code 11 (some .int) [] ({ frames := 0, cells := 0, slots := 0, locals := 0 } : Room) Z n0 h0 #[(.ref t), (.int (2 : Int32)), (.ref u), (.int (1 : Int32)), (.int (0 : Int32))] [] (fun v h => v = some (.int (idxD [c0, c1] 0)) ∧ h = h0) := by
  refine CN.walk (plainFor_of_name pn5) ho (L0 := #[.val (.ref t), .val (.int (2 : Int32)), .val (.ref u), .val (.int (1 : Int32)), .val (.int (0 : Int32)), .unset, .unset, .unset, .unset, .unset, .unset]) (fun m => rfl) ?_
  intro pG e s m below meth cO T hlk hret hnm A0
  have K0 : Keep h0 h0 [] := Keep.refl _ _
  refine f_aloadN A0 d41_0 (pc' := 1) rfl rfl rfl ?_
  refine f_iconst A0 d41_1 (pc' := 2) rfl 0 rfl ?_
  refine f_baload A0 d41_2 (pc' := 3) rfl D ⟨by decide, by decide⟩ rfl ?_
  refine f_istore A0 d41_3 (pc' := 5) rfl (L' := #[.val (.ref t), .val (.int (2 : Int32)), .val (.ref u), .val (.int (1 : Int32)), .val (.int (0 : Int32)), .val (.int (StrChars.lo8 46)), .unset, .unset, .unset, .unset, .unset]) rfl ?_
  refine f_iloadN A0 d41_5 (pc' := 6) rfl rfl ?_
  refine f_iloadN A0 d41_6 (pc' := 7) rfl rfl ?_
  refine f_isub A0 d41_7 (pc' := 8) rfl (1 : Int32) (by decide) ?_
  refine f_istore A0 d41_8 (pc' := 10) rfl (L' := #[.val (.ref t), .val (.int (2 : Int32)), .val (.ref u), .val (.int (1 : Int32)), .val (.int (0 : Int32)), .val (.int (StrChars.lo8 46)), .val (.int (1 : Int32)), .unset, .unset, .unset, .unset]) rfl ?_
  refine f_iload A0 d41_10 (pc' := 12) rfl rfl ?_
  refine f_istore A0 d41_12 (pc' := 14) rfl (L' := #[.val (.ref t), .val (.int (2 : Int32)), .val (.ref u), .val (.int (1 : Int32)), .val (.int (0 : Int32)), .val (.int (StrChars.lo8 46)), .val (.int (1 : Int32)), .val (.int (0 : Int32)), .unset, .unset, .unset]) rfl ?_
  refine f_iload A0 d41_14 (pc' := 16) rfl rfl ?_
  refine f_iload A0 d41_16 (pc' := 18) rfl rfl ?_
  refine f_icN A0 d41_18 (flt (by decide : ¬ (1 : Int32) < (0 : Int32))).2.2.1 (pc' := 21) rfl ?_
  refine f_aloadN A0 d41_21 (pc' := 22) rfl rfl rfl ?_
  refine f_iload A0 d41_22 (pc' := 24) rfl rfl ?_
  refine f_baload A0 d41_24 (pc' := 25) rfl V ⟨by decide, by decide⟩ rfl ?_
  refine f_iload A0 d41_25 (pc' := 27) rfl rfl ?_
  by_cases q0 : c0 = 46
  · refine f_icY A0 d41_27 (teq ((lo46 r0).mpr q0)).1 (pc' := 52) (by decide) (by decide) ?_
    refine f_iload A0 d41_52 (pc' := 54) rfl rfl ?_
    refine f_iload A0 d41_54 (pc' := 56) rfl rfl ?_
    refine f_icN A0 d41_56 (flt (by decide : ¬ (1 : Int32) < (0 : Int32))).2.2.1 (pc' := 59) rfl ?_
    refine f_iload A0 d41_59 (pc' := 61) rfl rfl ?_
    refine f_iconst A0 d41_61 (pc' := 62) rfl 1 rfl ?_
    refine f_iadd A0 d41_62 (pc' := 63) rfl (1 : Int32) (by decide) ?_
    refine f_istore A0 d41_63 (pc' := 65) rfl (L' := #[.val (.ref t), .val (.int (2 : Int32)), .val (.ref u), .val (.int (1 : Int32)), .val (.int (0 : Int32)), .val (.int (StrChars.lo8 46)), .val (.int (1 : Int32)), .val (.int (0 : Int32)), .val (.int (1 : Int32)), .unset, .unset]) rfl ?_
    refine f_iload A0 d41_65 (pc' := 67) rfl rfl ?_
    refine f_iloadN A0 d41_67 (pc' := 68) rfl rfl ?_
    refine f_iadd A0 d41_68 (pc' := 69) rfl (2 : Int32) (by decide) ?_
    refine f_iconst A0 d41_69 (pc' := 70) rfl 1 rfl ?_
    refine f_isub A0 d41_70 (pc' := 71) rfl (1 : Int32) (by decide) ?_
    refine f_istore A0 d41_71 (pc' := 73) rfl (L' := #[.val (.ref t), .val (.int (2 : Int32)), .val (.ref u), .val (.int (1 : Int32)), .val (.int (0 : Int32)), .val (.int (StrChars.lo8 46)), .val (.int (1 : Int32)), .val (.int (0 : Int32)), .val (.int (1 : Int32)), .val (.int (1 : Int32)), .unset]) rfl ?_
    refine f_iconst A0 d41_73 (pc' := 74) rfl 1 rfl ?_
    refine f_istore A0 d41_74 (pc' := 76) rfl (L' := #[.val (.ref t), .val (.int (2 : Int32)), .val (.ref u), .val (.int (1 : Int32)), .val (.int (0 : Int32)), .val (.int (StrChars.lo8 46)), .val (.int (1 : Int32)), .val (.int (0 : Int32)), .val (.int (1 : Int32)), .val (.int (1 : Int32)), .val (.int (1 : Int32))]) rfl ?_
    refine f_iload A0 d41_76 (pc' := 78) rfl rfl ?_
    refine f_iload A0 d41_78 (pc' := 80) rfl rfl ?_
    refine f_icY A0 d41_80 (flt (by decide : ¬ (1 : Int32) < (1 : Int32))).2.1 (pc' := 103) (by decide) (by decide) ?_
    refine f_iload A0 d41_103 (pc' := 105) rfl rfl ?_
    refine f_iload A0 d41_105 (pc' := 107) rfl rfl ?_
    refine f_icN A0 d41_107 (teq (by decide : (1 : Int32) = (1 : Int32))).2 (pc' := 110) rfl ?_
    refine f_iload A0 d41_110 (pc' := 112) rfl rfl ?_
    exact f_retIN A0 hlk hret d41_112 (by decide) (by decide) K0 ⟨by simp [idxD, *], rfl⟩
  · refine f_icN A0 d41_27 (feq (fun q => q0 ((lo46 r0).mp q))).1 (pc' := 30) rfl ?_
    refine f_iinc A0 d41_30 (pc' := 33) rfl rfl (1 : Int32) (by decide) (L' := #[.val (.ref t), .val (.int (2 : Int32)), .val (.ref u), .val (.int (1 : Int32)), .val (.int (0 : Int32)), .val (.int (StrChars.lo8 46)), .val (.int (1 : Int32)), .val (.int (1 : Int32)), .unset, .unset, .unset]) rfl ?_
    refine f_iload A0 d41_33 (pc' := 35) rfl rfl ?_
    refine f_iload A0 d41_35 (pc' := 37) rfl rfl ?_
    refine f_icN A0 d41_37 (flt (by decide : ¬ (1 : Int32) < (1 : Int32))).2.2.1 (pc' := 40) rfl ?_
    refine f_aloadN A0 d41_40 (pc' := 41) rfl rfl rfl ?_
    refine f_iload A0 d41_41 (pc' := 43) rfl rfl ?_
    refine f_baload A0 d41_43 (pc' := 44) rfl V ⟨by decide, by decide⟩ rfl ?_
    refine f_iload A0 d41_44 (pc' := 46) rfl rfl ?_
    by_cases q1 : c1 = 46
    · refine f_icY A0 d41_46 (teq ((lo46 r1).mpr q1)).1 (pc' := 52) (by decide) (by decide) ?_
      refine f_iload A0 d41_52 (pc' := 54) rfl rfl ?_
      refine f_iload A0 d41_54 (pc' := 56) rfl rfl ?_
      refine f_icN A0 d41_56 (flt (by decide : ¬ (1 : Int32) < (1 : Int32))).2.2.1 (pc' := 59) rfl ?_
      refine f_iload A0 d41_59 (pc' := 61) rfl rfl ?_
      refine f_iconst A0 d41_61 (pc' := 62) rfl 1 rfl ?_
      refine f_iadd A0 d41_62 (pc' := 63) rfl (2 : Int32) (by decide) ?_
      refine f_istore A0 d41_63 (pc' := 65) rfl (L' := #[.val (.ref t), .val (.int (2 : Int32)), .val (.ref u), .val (.int (1 : Int32)), .val (.int (0 : Int32)), .val (.int (StrChars.lo8 46)), .val (.int (1 : Int32)), .val (.int (1 : Int32)), .val (.int (2 : Int32)), .unset, .unset]) rfl ?_
      refine f_iload A0 d41_65 (pc' := 67) rfl rfl ?_
      refine f_iloadN A0 d41_67 (pc' := 68) rfl rfl ?_
      refine f_iadd A0 d41_68 (pc' := 69) rfl (3 : Int32) (by decide) ?_
      refine f_iconst A0 d41_69 (pc' := 70) rfl 1 rfl ?_
      refine f_isub A0 d41_70 (pc' := 71) rfl (2 : Int32) (by decide) ?_
      refine f_istore A0 d41_71 (pc' := 73) rfl (L' := #[.val (.ref t), .val (.int (2 : Int32)), .val (.ref u), .val (.int (1 : Int32)), .val (.int (0 : Int32)), .val (.int (StrChars.lo8 46)), .val (.int (1 : Int32)), .val (.int (1 : Int32)), .val (.int (2 : Int32)), .val (.int (2 : Int32)), .unset]) rfl ?_
      refine f_iconst A0 d41_73 (pc' := 74) rfl 1 rfl ?_
      refine f_istore A0 d41_74 (pc' := 76) rfl (L' := #[.val (.ref t), .val (.int (2 : Int32)), .val (.ref u), .val (.int (1 : Int32)), .val (.int (0 : Int32)), .val (.int (StrChars.lo8 46)), .val (.int (1 : Int32)), .val (.int (1 : Int32)), .val (.int (2 : Int32)), .val (.int (2 : Int32)), .val (.int (1 : Int32))]) rfl ?_
      refine f_iload A0 d41_76 (pc' := 78) rfl rfl ?_
      refine f_iload A0 d41_78 (pc' := 80) rfl rfl ?_
      refine f_icY A0 d41_80 (flt (by decide : ¬ (2 : Int32) < (2 : Int32))).2.1 (pc' := 103) (by decide) (by decide) ?_
      refine f_iload A0 d41_103 (pc' := 105) rfl rfl ?_
      refine f_iload A0 d41_105 (pc' := 107) rfl rfl ?_
      refine f_icN A0 d41_107 (teq (by decide : (2 : Int32) = (2 : Int32))).2 (pc' := 110) rfl ?_
      refine f_iload A0 d41_110 (pc' := 112) rfl rfl ?_
      exact f_retIN A0 hlk hret d41_112 (by decide) (by decide) K0 ⟨by simp [idxD, *], rfl⟩
    · refine f_icN A0 d41_46 (feq (fun q => q1 ((lo46 r1).mp q))).1 (pc' := 49) rfl ?_
      refine f_goto A0 d41_49 (pc' := 30) (by decide) (by decide) ?_
      refine f_iinc A0 d41_30 (pc' := 33) rfl rfl (2 : Int32) (by decide) (L' := #[.val (.ref t), .val (.int (2 : Int32)), .val (.ref u), .val (.int (1 : Int32)), .val (.int (0 : Int32)), .val (.int (StrChars.lo8 46)), .val (.int (1 : Int32)), .val (.int (2 : Int32)), .unset, .unset, .unset]) rfl ?_
      refine f_iload A0 d41_33 (pc' := 35) rfl rfl ?_
      refine f_iload A0 d41_35 (pc' := 37) rfl rfl ?_
      refine f_icY A0 d41_37 (tlt (by decide : (1 : Int32) < (2 : Int32))).2.2.1 (pc' := 52) (by decide) (by decide) ?_
      refine f_iload A0 d41_52 (pc' := 54) rfl rfl ?_
      refine f_iload A0 d41_54 (pc' := 56) rfl rfl ?_
      refine f_icY A0 d41_56 (tlt (by decide : (1 : Int32) < (2 : Int32))).2.2.1 (pc' := 113) (by decide) (by decide) ?_
      refine f_iinc A0 d41_113 (pc' := 116) rfl rfl (3 : Int32) (by decide) (L' := #[.val (.ref t), .val (.int (2 : Int32)), .val (.ref u), .val (.int (1 : Int32)), .val (.int (0 : Int32)), .val (.int (StrChars.lo8 46)), .val (.int (1 : Int32)), .val (.int (3 : Int32)), .unset, .unset, .unset]) rfl ?_
      refine f_goto A0 d41_116 (pc' := 14) (by decide) (by decide) ?_
      refine f_iload A0 d41_14 (pc' := 16) rfl rfl ?_
      refine f_iload A0 d41_16 (pc' := 18) rfl rfl ?_
      refine f_icY A0 d41_18 (tlt (by decide : (1 : Int32) < (3 : Int32))).2.2.1 (pc' := 119) (by decide) (by decide) ?_
      refine f_iconst A0 d41_119 (pc' := 120) rfl (-1) rfl ?_
      exact f_retIN A0 hlk hret d41_120 (by decide) (by decide) K0 ⟨by simp [idxD, *], rfl⟩
set_option maxRecDepth 65536 in
set_option maxHeartbeats 40000000 in
theorem m_xl2 (l : Launch) (Z : State) (a0 : Array Value) (hw : ∀ d ∈ tables_1, d.before a0 Z = true) (t u : Addr) (kb ku : ClassId) (c0 c1 : Int32) (h0 : Heap) (n0 : Nat) (ho : Old Z n0 h0) (V : Arv Z h0 t kb .byte 2 [(.int (StrChars.lo8 c0)), (.int (StrChars.lo8 c1))] (.int 0)) (D : Arv Z h0 u ku .byte 1 [(.int (StrChars.lo8 46))] (.int 0)) (r0 : ¬ c0 < 0 ∧ ¬ (255 : Int32) < c0) (r1 : ¬ c1 < 0 ∧ ¬ (255 : Int32) < c1) :
    CN l (⟨"java/lang/StringLatin1", "indexOf", "([B[B)I"⟩ : MethodName) jdk_43_method_24_code 2 (some .int) [] ({ frames := 1, cells := 0, slots := 0, locals := 30 } : Room) Z n0 h0 #[(.ref t), (.ref u)] [] (fun v h => v = some (.int (idxD [c0, c1] 0)) ∧ h = h0) := by
  refine CN.walk (plainFor_of_name pn5) ho (L0 := #[.val (.ref t), .val (.ref u)]) (fun m => rfl) ?_
  intro pG e s m below meth cO T hlk hret hnm A0
  have K0 : Keep h0 h0 [] := Keep.refl _ _
  refine f_aloadN A0 d11_0 (pc' := 1) rfl rfl rfl ?_
  refine f_arraylength A0 d11_1 (pc' := 2) rfl D ?_
  refine f_ifY A0 d11_2 ((if0 _ _).trans (feq (by decide : ¬ (1 : Int32) = (0 : Int32))).2) (pc' := 7) (by decide) (by decide) ?_
  refine f_aloadN A0 d11_7 (pc' := 8) rfl rfl rfl ?_
  refine f_arraylength A0 d11_8 (pc' := 9) rfl V ?_
  refine f_ifY A0 d11_9 ((if0 _ _).trans (feq (by decide : ¬ (2 : Int32) = (0 : Int32))).2) (pc' := 14) (by decide) (by decide) ?_
  refine f_aloadN A0 d11_14 (pc' := 15) rfl rfl rfl ?_
  refine f_aloadN A0 d11_15 (pc' := 16) rfl rfl rfl ?_
  refine f_arraylength A0 d11_16 (pc' := 17) rfl V ?_
  refine f_aloadN A0 d11_17 (pc' := 18) rfl rfl rfl ?_
  refine f_aloadN A0 d11_18 (pc' := 19) rfl rfl rfl ?_
  refine f_arraylength A0 d11_19 (pc' := 20) rfl D ?_
  refine f_iconst A0 d11_20 (pc' := 21) rfl 0 rfl ?_
  refine f_callS A0 d11_21 (pc' := 24) rfl (wd hw 203 rfl) (wd hw 204 rfl) (wd hw 63 rfl) (wd hw 205 rfl) (by decide) pd23 [(.ref t), (.int (2 : Int32)), (.ref u), (.int (1 : Int32)), (.int (0 : Int32))] [] rfl rfl rfl 0 (Nat.le_of_eq rfl) (CN.pay (W := 0) A0 (m_xi2 l Z a0 hw t u kb ku c0 c1 h0 n0 A0.old V D r0 r1) (wd hw 205 rfl) (wd hw 63 rfl) (by decide) (by decide)) (kc := 0) (ks := 0) (by decide) (by decide) all0 (fun q => nomatch q) fun v253 T253 h253 L253 A253 K253 q253 => ?_
  obtain ⟨rfl, hh253⟩ := q253
  obtain rfl := hh253.symm
  show Wp pG e below _ T253 (mkF m 24 _ [(.int (idxD [c0, c1] 0))])
  exact f_retIN A253 hlk hret d11_24 (by decide) (by decide) K0 ⟨rfl, rfl⟩
set_option maxRecDepth 65536 in
set_option maxHeartbeats 40000000 in
theorem m_xs2 (l : Launch) (Z : State) (a0 : Array Value) (hw : ∀ d ∈ tables_1, d.before a0 Z = true) (x t d u : Addr) (c0 c1 : Int32) (zc : Int32) (O2 : Sta Z Z.heap "java/lang/String" "COMPACT_STRINGS" "Z" (.int zc)) (P5 : ¬ zc = 0) (h0 : Heap) (n0 : Nat) (ho : Old Z n0 h0) (F : Str Z h0 x t [c0, c1]) (G : Str Z h0 d u [46]) (r0 : ¬ c0 < 0 ∧ ¬ (255 : Int32) < c0) (r1 : ¬ c1 < 0 ∧ ¬ (255 : Int32) < c1) :
    CN l (⟨"java/lang/String", "indexOf", "(Ljava/lang/String;)I"⟩ : MethodName) jdk_42_method_84_code 3 (some .int) [] ({ frames := 2, cells := 0, slots := 0, locals := 50 } : Room) Z n0 h0 #[(.ref x), (.ref d)] [] (fun v h => v = some (.int (idxD [c0, c1] 0)) ∧ h = h0) := by
  refine CN.walk (plainFor_of_name pn0) ho (L0 := #[.val (.ref x), .val (.ref d), .unset]) (fun m => rfl) ?_
  intro pG e s m below meth cO T hlk hret hnm A0
  have K0 : Keep h0 h0 [] := Keep.refl _ _
  obtain ⟨kb254, fv254, fc254, av254⟩ := F.open (lc r0.2 (lc r1.2 ln))
  have av254 : Arv Z h0 t kb254 .byte (2 : Int32) [(.int (StrChars.lo8 c0)), (.int (StrChars.lo8 c1))] (.int 0) := av254
  obtain ⟨kb255, fv255, fc255, av255⟩ := G.open (by decide)
  have av255 : Arv Z h0 u kb255 .byte (1 : Int32) [(.int (StrChars.lo8 (46 : Int32)))] (.int 0) := av255
  refine f_aloadN A0 d8_0 (pc' := 1) rfl rfl rfl ?_
  refine f_callV A0 (a := x) d8_1 (pc' := 4) rfl (wd hw 50 rfl) (wd hw 51 rfl) (nfS A0 (wd hw 53 rfl)) (wd hw 53 rfl) (wd hw 52 rfl) (by decide) F.exa pd2 [] [] rfl rfl rfl 0 (Nat.le_of_eq rfl) (CN.pay (W := 0) A0 (m_cod0 l Z a0 hw x zc O2 P5 h0 n0 A0.old fc254) (wd hw 54 rfl) (wd hw 6 rfl) (by decide) (by decide)) (kc := 0) (ks := 0) (by decide) (by decide) all0 (fun q => nomatch q) fun v256 T256 h256 L256 A256 K256 q256 => ?_
  obtain ⟨rfl, hh256⟩ := q256
  obtain rfl := hh256.symm
  show Wp pG e below _ T256 (mkF m 4 _ [(.int (0 : Int32))])
  refine f_istoreN A256 d8_4 (pc' := 5) rfl (L' := #[.val (.ref x), .val (.ref d), .val (.int (0 : Int32))]) rfl ?_
  refine f_iloadN A256 d8_5 (pc' := 6) rfl rfl ?_
  refine f_aloadN A256 d8_6 (pc' := 7) rfl rfl rfl ?_
  refine f_callV A256 (a := d) d8_7 (pc' := 10) rfl (wd hw 50 rfl) (wd hw 51 rfl) (nfS A256 (wd hw 53 rfl)) (wd hw 53 rfl) (wd hw 52 rfl) (by decide) G.exa pd2 [] [(.int (0 : Int32))] rfl rfl rfl 1 (Nat.le_of_eq rfl) (CN.pay (W := 1) A256 (m_cod0 l Z a0 hw d zc O2 P5 h0 n0 A256.old fc255) (wd hw 54 rfl) (wd hw 6 rfl) (by decide) (by decide)) (kc := 0) (ks := 0) (by decide) (by decide) all0 (fun q => nomatch q) fun v257 T257 h257 L257 A257 K257 q257 => ?_
  obtain ⟨rfl, hh257⟩ := q257
  obtain rfl := hh257.symm
  show Wp pG e below _ T257 (mkF m 10 _ [(.int (0 : Int32)), (.int (0 : Int32))])
  refine f_icN A257 d8_10 (teq (by decide : (0 : Int32) = (0 : Int32))).2 (pc' := 13) rfl ?_
  refine f_aloadN A257 d8_13 (pc' := 14) rfl rfl rfl ?_
  refine f_callV A257 (a := x) d8_14 (pc' := 17) rfl (wd hw 56 rfl) (wd hw 57 rfl) (nfS A257 (wd hw 59 rfl)) (wd hw 59 rfl) (wd hw 58 rfl) (by decide) F.exa pd12 [] [] rfl rfl rfl 0 (Nat.le_of_eq rfl) (CN.pay (W := 0) A257 (m_isLat l Z a0 hw x zc O2 P5 h0 n0 A257.old fc254) (wd hw 60 rfl) (wd hw 6 rfl) (by decide) (by decide)) (kc := 0) (ks := 0) (by decide) (by decide) all0 (fun q => nomatch q) fun v258 T258 h258 L258 A258 K258 q258 => ?_
  obtain ⟨rfl, hh258⟩ := q258
  obtain rfl := hh258.symm
  show Wp pG e below _ T258 (mkF m 17 _ [(.int (1 : Int32))])
  refine f_ifN A258 d8_17 ((if0 _ _).trans (feq (by decide : ¬ (1 : Int32) = (0 : Int32))).1) (pc' := 20) rfl ?_
  refine f_aloadN A258 d8_20 (pc' := 21) rfl rfl rfl ?_
  refine f_getF A258 d8_21 (pc' := 24) rfl (host := "") (Or.inl (wd hw 24 rfl)) Via.refl fv254 fun T259 A259 => ?_
  refine f_aloadN A259 d8_24 (pc' := 25) rfl rfl rfl ?_
  refine f_getF A259 d8_25 (pc' := 28) rfl (host := "") (Or.inl (wd hw 24 rfl)) Via.refl fv255 fun T260 A260 => ?_
  refine f_callS A260 d8_28 (pc' := 31) rfl (wd hw 61 rfl) (wd hw 62 rfl) (wd hw 63 rfl) (wd hw 64 rfl) (by decide) pd17 [(.ref t), (.ref u)] [] rfl rfl rfl 0 (Nat.le_of_eq rfl) (CN.pay (W := 0) A260 (m_xl2 l Z a0 hw t u kb254 kb255 c0 c1 h0 n0 A260.old av254 av255 r0 r1) (wd hw 64 rfl) (wd hw 63 rfl) (by decide) (by decide)) (kc := 0) (ks := 0) (by decide) (by decide) all0 (fun q => nomatch q) fun v261 T261 h261 L261 A261 K261 q261 => ?_
  obtain ⟨rfl, hh261⟩ := q261
  obtain rfl := hh261.symm
  show Wp pG e below _ T261 (mkF m 31 _ [(.int (idxD [c0, c1] 0))])
  refine f_goto A261 d8_31 (pc' := 45) (by decide) (by decide) ?_
  exact f_retIN A261 hlk hret d8_45 (by decide) (by decide) K0 ⟨rfl, rfl⟩
set_option maxRecDepth 65536 in
set_option maxHeartbeats 40000000 in
theorem m_con2 (l : Launch) (Z : State) (a0 : Array Value) (hw : ∀ d ∈ tables_1, d.before a0 Z = true) (x t d u : Addr) (c0 c1 : Int32) (zc : Int32) (O2 : Sta Z Z.heap "java/lang/String" "COMPACT_STRINGS" "Z" (.int zc)) (P5 : ¬ zc = 0) (r : Int32) (h0 : Heap) (n0 : Nat) (ho : Old Z n0 h0) (F : Str Z h0 x t [c0, c1]) (G : Str Z h0 d u [46]) (r0 : ¬ c0 < 0 ∧ ¬ (255 : Int32) < c0) (r1 : ¬ c1 < 0 ∧ ¬ (255 : Int32) < c1) (hr : (if idxD [c0, c1] 0 < 0 then 0 else 1) = r) :
    CN l (⟨"java/lang/String", "contains", "(Ljava/lang/CharSequence;)Z"⟩ : MethodName) jdk_42_method_97_code 2 (some .boolean) [] ({ frames := 3, cells := 0, slots := 0, locals := 70 } : Room) Z n0 h0 #[(.ref x), (.ref d)] [] (fun v h => v = some (.int r) ∧ h = h0) := by
  refine CN.walk (plainFor_of_name pn0) ho (L0 := #[.val (.ref x), .val (.ref d)]) (fun m => rfl) ?_
  intro pG e s m below meth cO T hlk hret hnm A0
  have K0 : Keep h0 h0 [] := Keep.refl _ _
  refine f_aloadN A0 d6_0 (pc' := 1) rfl rfl rfl ?_
  refine f_aloadN A0 d6_1 (pc' := 2) rfl rfl rfl ?_
  refine f_callF A0 (a := d) d6_2 (pc' := 7) rfl (wd hw 36 rfl) (wd hw 37 rfl) (wd hw 38 rfl) (by first | rfl | decide) (wd hw 39 rfl) (wd hw 40 rfl) (wd hw 41 rfl) (wd hw 42 rfl) (wd hw 43 rfl) (by decide) G.exa pd18 [] [(.ref x)] rfl rfl rfl 1 (Nat.le_of_eq rfl) (CN.pay (W := 1) A0 (m_toS l Z a0 hw d h0 n0 A0.old) (wd hw 44 rfl) (wd hw 6 rfl) (by decide) (by decide)) (kc := 0) (ks := 0) (by decide) (by decide) all0 (fun q => nomatch q) fun v262 T262 h262 L262 A262 K262 q262 => ?_
  obtain ⟨rfl, hh262⟩ := q262
  obtain rfl := hh262.symm
  show Wp pG e below _ T262 (mkF m 7 _ [(.ref d), (.ref x)])
  refine f_callV A262 (a := x) d6_7 (pc' := 10) rfl (wd hw 45 rfl) (wd hw 46 rfl) (nfS A262 (wd hw 48 rfl)) (wd hw 48 rfl) (wd hw 47 rfl) (by decide) F.exa pd19 [(.ref d)] [] rfl rfl rfl 0 (Nat.le_of_eq rfl) (CN.pay (W := 0) A262 (m_xs2 l Z a0 hw x t d u c0 c1 zc O2 P5 h0 n0 A262.old F G r0 r1) (wd hw 49 rfl) (wd hw 6 rfl) (by decide) (by decide)) (kc := 0) (ks := 0) (by decide) (by decide) all0 (fun q => nomatch q) fun v263 T263 h263 L263 A263 K263 q263 => ?_
  obtain ⟨rfl, hh263⟩ := q263
  obtain rfl := hh263.symm
  show Wp pG e below _ T263 (mkF m 10 _ [(.int (idxD [c0, c1] 0))])
  by_cases q : (idxD [c0, c1] 0) < (0 : Int32)
  · refine f_ifY A263 d6_10 ((if0 _ _).trans (tlt q).1) (pc' := 17) (by decide) (by decide) ?_
    refine f_iconst A263 d6_17 (pc' := 18) rfl 0 rfl ?_
    exact f_retBN A263 hlk hret d6_18 (by decide) (0 : Int32) (by decide) (by decide) (by decide) K0 ⟨by rw [← hr, if_pos q], rfl⟩
  · refine f_ifN A263 d6_10 ((if0 _ _).trans (flt q).1) (pc' := 13) rfl ?_
    refine f_iconst A263 d6_13 (pc' := 14) rfl 1 rfl ?_
    refine f_goto A263 d6_14 (pc' := 18) (by decide) (by decide) ?_
    exact f_retBN A263 hlk hret d6_18 (by decide) (1 : Int32) (by decide) (by decide) (by decide) K0 ⟨by rw [← hr, if_neg q], rfl⟩
set_option maxRecDepth 65536 in
set_option maxHeartbeats 40000000 in
theorem m_qd2 (l : Launch) (Z : State) (a0 : Array Value) (hw : ∀ d ∈ tables_1, d.before a0 Z = true) (z x t : Addr) (c0 c1 : Int32) (zc : Int32) (O2 : Sta Z Z.heap "java/lang/String" "COMPACT_STRINGS" "Z" (.int zc)) (P5 : ¬ zc = 0) (h0 : Heap) (n0 : Nat) (ho : Old Z n0 h0) (hEL : EW Z a0 ELs) (F : Str Z h0 x t [c0, c1]) (r0 : ¬ c0 < 0 ∧ ¬ (255 : Int32) < c0) (r1 : ¬ c1 < 0 ∧ ¬ (255 : Int32) < c1) (hdot : (if idxD [c0, c1] 0 < 0 then (0 : Int32) else 1) = 1) :
    CW l (⟨"com/example/mapwright/mapwright/config/MapperReader", "qualified", "(Ljava/lang/String;Ljava/lang/String;)Ljava/lang/String;"⟩ : MethodName) prog_26_method_11_code 2 (some (.object "java/lang/String")) [] ({ frames := 4, cells := 2, slots := 8, locals := 90 } : Room) Z ELs [] n0 h0 #[(.ref z), (.ref x)] [] (fun v h => v = some (.ref x)) := by
  refine CW.walk (plainFor_of_name pn6) ho (L0 := #[.val (.ref z), .val (.ref x)]) (fun m => rfl) ?_
  intro pG e s m below meth cO T hlk hret hnm hSL A0
  have K0 : Keep h0 h0 [] := Keep.refl _ _
  refine f_aloadN A0 d5_0 (pc' := 1) rfl rfl rfl ?_
  refine f_ldcC A0 d5_1 (pc' := 3) rfl (by decide) (vs := [(.int (46 : Int32))]) (z := 1) ⟨by decide, by decide⟩ (by decide) (by decide) (wd hw 30 rfl) (strA hw) hEL (n := 4) (by decide) (by decide) (by decide) (by decide) fun a264 b264 kb264 vm264 T264 h264 A264 E264 C264 Li264 x264 fc264 fv264 av264 hs264 => ?_
  have G264 : Str Z h264 a264 b264 [(46 : Int32)] := strLit x264 fc264 fv264 av264 (Or.inl ⟨rfl, rfl, rfl, by decide⟩) (by decide) (by decide)
  have Q265 : Keep h0 h264 [] := K0.ext E264
  have c266 := (F.ext E264)
  have c268 := (F.exa.ext E264)
  refine f_callV A264 (a := x) d5_3 (pc' := 6) rfl (wd hw 31 rfl) (wd hw 32 rfl) (nfS A264 (wd hw 34 rfl)) (wd hw 34 rfl) (wd hw 33 rfl) (by decide) c268 pd20 [(.ref a264)] [] rfl rfl rfl 0 (Nat.le_of_eq rfl) (CN.pay (W := 0) A264 (m_con2 l Z a0 hw x t a264 b264 c0 c1 zc O2 P5 1 h264 n0 A264.old c266 G264 r0 r1 hdot) (wd hw 35 rfl) (wd hw 6 rfl) (by decide) (by decide)) (kc := 0) (ks := 0) (by decide) (by decide) all0 (fun _ => sf0) fun v267 T267 h267 L267 A267 K267 q267 => ?_
  obtain ⟨rfl, hh267⟩ := q267
  obtain rfl := hh267.symm
  show Wp pG e below _ T267 (mkF m 6 _ [(.int (1 : Int32))])
  refine f_ifN A267 d5_6 ((if0 _ _).trans (feq (by decide : ¬ (1 : Int32) = (0 : Int32))).1) (pc' := 9) rfl ?_
  refine f_aloadN A267 d5_9 (pc' := 10) rfl rfl rfl ?_
  refine f_goto A267 d5_10 (pc' := 36) (by decide) (by decide) ?_
  exact f_retRW A267 hEL hlk hret d5_36 rfl rfl (by decide) (by decide) Q265 rfl
set_option maxRecDepth 65536 in
set_option maxHeartbeats 40000000 in
theorem m_qn2 (l : Launch) (Z : State) (a0 : Array Value) (hw : ∀ d ∈ tables_1, d.before a0 Z = true) (z y x t : Addr) (es : List Int32) (c0 c1 : Int32) (zc : Int32) (O2 : Sta Z Z.heap "java/lang/String" "COMPACT_STRINGS" "Z" (.int zc)) (P5 : ¬ zc = 0) (h0 : Heap) (n0 : Nat) (ho : Old Z n0 h0) (hEL : EW Z a0 ELs) (Fz : Str Z h0 z y es) (F : Str Z h0 x t [c0, c1]) (hes : ∀ c ∈ es, ¬ c < 0 ∧ ¬ (255 : Int32) < c) (hle : es.length ≤ 3) (r0 : ¬ c0 < 0 ∧ ¬ (255 : Int32) < c0) (r1 : ¬ c1 < 0 ∧ ¬ (255 : Int32) < c1) (hdot : (if idxD [c0, c1] 0 < 0 then (0 : Int32) else 1) = 0) :
    CW l (⟨"com/example/mapwright/mapwright/config/MapperReader", "qualified", "(Ljava/lang/String;Ljava/lang/String;)Ljava/lang/String;"⟩ : MethodName) prog_26_method_11_code 2 (some (.object "java/lang/String")) [] ({ frames := 7, cells := 9, slots := 150, locals := 190 } : Room) Z ELs [] n0 h0 #[(.ref z), (.ref x)] [] (fun v h => ∃ (a b : Addr), v = some (.ref a) ∧ h0.size ≤ a ∧ Str Z h a b (es ++ [(46 : Int32)] ++ [c0, c1])) := by
  refine CW.walk (plainFor_of_name pn6) ho (L0 := #[.val (.ref z), .val (.ref x)]) (fun m => rfl) ?_
  intro pG e s m below meth cO T hlk hret hnm hSL A0
  have K0 : Keep h0 h0 [] := Keep.refl _ _
  refine f_aloadN A0 d5_0 (pc' := 1) rfl rfl rfl ?_
  refine f_ldcC A0 d5_1 (pc' := 3) rfl (by decide) (vs := [(.int (46 : Int32))]) (z := 1) ⟨by decide, by decide⟩ (by decide) (by decide) (wd hw 30 rfl) (strA hw) hEL (n := 4) (by decide) (by decide) (by decide) (by decide) fun a269 b269 kb269 vm269 T269 h269 A269 E269 C269 Li269 x269 fc269 fv269 av269 hs269 => ?_
  have G269 : Str Z h269 a269 b269 [(46 : Int32)] := strLit x269 fc269 fv269 av269 (Or.inl ⟨rfl, rfl, rfl, by decide⟩) (by decide) (by decide)
  have Q270 : Keep h0 h269 [] := K0.ext E269
  have c271 := (F.ext E269)
  have c273 := (F.exa.ext E269)
  refine f_callV A269 (a := x) d5_3 (pc' := 6) rfl (wd hw 31 rfl) (wd hw 32 rfl) (nfS A269 (wd hw 34 rfl)) (wd hw 34 rfl) (wd hw 33 rfl) (by decide) c273 pd20 [(.ref a269)] [] rfl rfl rfl 0 (Nat.le_of_eq rfl) (CN.pay (W := 0) A269 (m_con2 l Z a0 hw x t a269 b269 c0 c1 zc O2 P5 0 h269 n0 A269.old c271 G269 r0 r1 hdot) (wd hw 35 rfl) (wd hw 6 rfl) (by decide) (by decide)) (kc := 0) (ks := 0) (by decide) (by decide) all0 (fun _ => sf0) fun v272 T272 h272 L272 A272 K272 q272 => ?_
  obtain ⟨rfl, hh272⟩ := q272
  obtain rfl := hh272.symm
  show Wp pG e below _ T272 (mkF m 6 _ [(.int (0 : Int32))])
  refine f_ifY A272 d5_6 ((if0 _ _).trans (teq (by decide : (0 : Int32) = (0 : Int32))).1) (pc' := 13) (by decide) (by decide) ?_
  refine f_new A272 d5_13 (pc' := 16) rfl (wd hw 65 rfl) (wd hw 66 rfl) (wd hw 67 rfl) (by decide) (by decide) fun a274 T274 h274 g274 A274 E274 X274 D274 => ?_
  have z274 : n0 ≤ a274 := Nat.le_trans A272.sz (Nat.le_of_eq g274.symm)
  have y274 : h0.size ≤ a274 := Nat.le_trans Q270.1 (Nat.le_of_eq g274.symm)
  have Q275 : Keep h0 h274 [] := Q270.ext E274
  refine f_dup A274 d5_16 (pc' := 17) rfl rfl ?_
  refine f_callI A274 (a := a274) d5_17 (pc' := 20) rfl rfl (wd hw 68 rfl) (wd hw 69 rfl) (wd hw 70 rfl) (by decide) pd21 [] [(.ref a274)] rfl rfl rfl 1 (Nat.le_of_eq rfl) (CN.pay (W := 1) A274 (m_sbI l Z a0 hw a274 zc O2 P5 h274 n0 A274.old X274 (show Fld Z h274 a274 "java/lang/AbstractStringBuilder" "value" "[B" .null from D274 (Or.inl (wd hw 80 rfl)) (ty := (.array .byte)) (by decide)) (show Fld Z h274 a274 "java/lang/AbstractStringBuilder" "coder" "B" (.int (0 : Int32)) from D274 (Or.inl (wd hw 82 rfl)) (ty := .byte) (by decide)) (show Fld Z h274 a274 "java/lang/AbstractStringBuilder" "count" "I" (.int (0 : Int32)) from D274 (Or.inl (wd hw 99 rfl)) (ty := .int) (by decide)) z274) (wd hw 70 rfl) (wd hw 67 rfl) (by decide) (by decide)) (kc := 1) (ks := 16) (by decide) (by decide) (allS z274 all0) (fun _ => (sfS (Safe.exa A274.hZ.alike X274 (by decide) (by decide)) sf0)) fun v276 T276 h276 L276 A276 K276 q276 => ?_
  have Q277 : Keep h0 h276 [] := Q275.trans K276 (allS (Or.inr y274) all0)
  obtain ⟨rfl, v276, kb276, zv276, gv276, B276⟩ := q276
  show Wp pG e below _ T276 (mkF m 20 _ [(.ref a274)])
  refine f_aloadN A276 d5_20 (pc' := 21) rfl rfl rfl ?_
  have c278 := (((Fz.ext E269).ext E274).keep K276 (ninS (Nat.ne_of_lt (Nat.lt_of_lt_of_le (Nat.lt_of_lt_of_le Fz.lt E269.1) (Nat.le_of_eq g274.symm))) nin0) (ninS (Nat.ne_of_lt (Nat.lt_of_lt_of_le (Nat.lt_of_lt_of_le Fz.lt' E269.1) (Nat.le_of_eq g274.symm))) nin0))
  have s280 := Safe.keep K276 (sfS (Safe.exa A274.hZ.alike X274 (by decide) (by decide)) sf0) (A274.ch rfl).1 (Safe.new gv276)
  refine f_callV A276 (a := a274) d5_21 (pc' := 24) rfl (wd hw 83 rfl) (wd hw 84 rfl) (nfS A276 (wd hw 86 rfl)) (wd hw 86 rfl) (wd hw 85 rfl) (by decide) B276.1 pd22 [(.ref z)] [] rfl rfl rfl 0 (Nat.le_of_eq rfl) (CN.pay (W := 0) A276 (m_sbA l Z a0 hw a274 v276 kb276 16 [] z y es zc O2 P5 h276 n0 A276.old B276 c278 (fun c hc => (hes c hc).2) (by simp only [List.length_append, List.length_cons, List.length_nil]; omega) (by decide) z274 zv276 (Nat.ne_of_lt (Nat.lt_of_lt_of_le X274.lt gv276)) (Nat.ne_of_lt (Nat.lt_of_lt_of_le (Nat.lt_of_lt_of_le (Nat.lt_of_lt_of_le Fz.lt' E269.1) E274.1) gv276))) (wd hw 87 rfl) (wd hw 67 rfl) (by decide) (by decide)) (kc := 0) (ks := 0) (by decide) (by decide) (allS z274 (allS zv276 all0)) (fun _ => (sfS (Safe.exa A276.hZ.alike B276.1 (by decide) (by decide)) (sfS s280 sf0))) fun v279 T279 h279 L279 A279 K279 q279 => ?_
  have Q281 : Keep h0 h279 [] := Q277.trans K279 (allS (Or.inr y274) (allS (Or.inr (Nat.le_trans Q275.1 gv276)) all0))
  obtain ⟨rfl, B279⟩ := q279
  have B279 : SBd Z h279 a274 v276 kb276 16 es := B279
  show Wp pG e below _ T279 (mkF m 24 _ [(.ref a274)])
  refine f_ldcA A279 d5_24 (pc' := 26) rfl (wd hw 30 rfl) Li269 ?_
  have c283 := (((G269.ext E274).keep K276 (ninS (Nat.ne_of_lt (Nat.lt_of_lt_of_le x269.lt (Nat.le_of_eq g274.symm))) nin0) (ninS (Nat.ne_of_lt (Nat.lt_of_lt_of_le av269.lt (Nat.le_of_eq g274.symm))) nin0)).keep K279 (ninS (Nat.ne_of_lt (Nat.lt_of_lt_of_le x269.lt (Nat.le_of_eq g274.symm))) (ninS (Nat.ne_of_lt (Nat.lt_of_lt_of_le (Nat.lt_of_lt_of_le x269.lt E274.1) gv276)) nin0)) (ninS (Nat.ne_of_lt (Nat.lt_of_lt_of_le av269.lt (Nat.le_of_eq g274.symm))) (ninS (Nat.ne_of_lt (Nat.lt_of_lt_of_le (Nat.lt_of_lt_of_le av269.lt E274.1) gv276)) nin0)))
  have c285 := (Safe.keep K279 (sfS (Safe.exa A276.hZ.alike B276.1 (by decide) (by decide)) (sfS s280 sf0)) (A276.ch rfl).1 s280)
  refine f_callV A279 (a := a274) d5_26 (pc' := 29) rfl (wd hw 83 rfl) (wd hw 84 rfl) (nfS A279 (wd hw 86 rfl)) (wd hw 86 rfl) (wd hw 85 rfl) (by decide) B279.1 pd22 [(.ref a269)] [] rfl rfl rfl 0 (Nat.le_of_eq rfl) (CN.pay (W := 0) A279 (m_sbA l Z a0 hw a274 v276 kb276 16 es a269 b269 [(46 : Int32)] zc O2 P5 h279 n0 A279.old B279 c283 (by decide) (by simp only [List.length_append, List.length_cons, List.length_nil]; omega) (by decide) z274 zv276 (Nat.ne_of_lt (Nat.lt_of_lt_of_le X274.lt gv276)) (Nat.ne_of_lt (Nat.lt_of_lt_of_le (Nat.lt_of_lt_of_le av269.lt E274.1) gv276))) (wd hw 87 rfl) (wd hw 67 rfl) (by decide) (by decide)) (kc := 0) (ks := 0) (by decide) (by decide) (allS z274 (allS zv276 all0)) (fun _ => (sfS (Safe.exa A279.hZ.alike B279.1 (by decide) (by decide)) (sfS c285 sf0))) fun v284 T284 h284 L284 A284 K284 q284 => ?_
  have Q286 : Keep h0 h284 [] := Q281.trans K284 (allS (Or.inr y274) (allS (Or.inr (Nat.le_trans Q275.1 gv276)) all0))
  obtain ⟨rfl, B284⟩ := q284
  have B284 : SBd Z h284 a274 v276 kb276 16 (es ++ [(46 : Int32)]) := B284
  show Wp pG e below _ T284 (mkF m 29 _ [(.ref a274)])
  refine f_aloadN A284 d5_29 (pc' := 30) rfl rfl rfl ?_
  have c287 := ((((c271.ext E274).keep K276 (ninS (Nat.ne_of_lt (Nat.lt_of_lt_of_le (Nat.lt_of_lt_of_le F.lt E269.1) (Nat.le_of_eq g274.symm))) nin0) (ninS (Nat.ne_of_lt (Nat.lt_of_lt_of_le (Nat.lt_of_lt_of_le F.lt' E269.1) (Nat.le_of_eq g274.symm))) nin0)).keep K279 (ninS (Nat.ne_of_lt (Nat.lt_of_lt_of_le (Nat.lt_of_lt_of_le F.lt E269.1) (Nat.le_of_eq g274.symm))) (ninS (Nat.ne_of_lt (Nat.lt_of_lt_of_le (Nat.lt_of_lt_of_le (Nat.lt_of_lt_of_le F.lt E269.1) E274.1) gv276)) nin0)) (ninS (Nat.ne_of_lt (Nat.lt_of_lt_of_le (Nat.lt_of_lt_of_le F.lt' E269.1) (Nat.le_of_eq g274.symm))) (ninS (Nat.ne_of_lt (Nat.lt_of_lt_of_le (Nat.lt_of_lt_of_le (Nat.lt_of_lt_of_le F.lt' E269.1) E274.1) gv276)) nin0))).keep K284 (ninS (Nat.ne_of_lt (Nat.lt_of_lt_of_le (Nat.lt_of_lt_of_le F.lt E269.1) (Nat.le_of_eq g274.symm))) (ninS (Nat.ne_of_lt (Nat.lt_of_lt_of_le (Nat.lt_of_lt_of_le (Nat.lt_of_lt_of_le F.lt E269.1) E274.1) gv276)) nin0)) (ninS (Nat.ne_of_lt (Nat.lt_of_lt_of_le (Nat.lt_of_lt_of_le F.lt' E269.1) (Nat.le_of_eq g274.symm))) (ninS (Nat.ne_of_lt (Nat.lt_of_lt_of_le (Nat.lt_of_lt_of_le (Nat.lt_of_lt_of_le F.lt' E269.1) E274.1) gv276)) nin0)))
  have c289 := (Safe.keep K284 (sfS (Safe.exa A279.hZ.alike B279.1 (by decide) (by decide)) (sfS c285 sf0)) (A279.ch rfl).1 c285)
  refine f_callV A284 (a := a274) d5_30 (pc' := 33) rfl (wd hw 83 rfl) (wd hw 84 rfl) (nfS A284 (wd hw 86 rfl)) (wd hw 86 rfl) (wd hw 85 rfl) (by decide) B284.1 pd22 [(.ref x)] [] rfl rfl rfl 0 (Nat.le_of_eq rfl) (CN.pay (W := 0) A284 (m_sbA l Z a0 hw a274 v276 kb276 16 (es ++ [(46 : Int32)]) x t [c0, c1] zc O2 P5 h284 n0 A284.old B284 c287 (lc r0.2 (lc r1.2 ln)) (by simp only [List.length_append, List.length_cons, List.length_nil]; omega) (by decide) z274 zv276 (Nat.ne_of_lt (Nat.lt_of_lt_of_le X274.lt gv276)) (Nat.ne_of_lt (Nat.lt_of_lt_of_le (Nat.lt_of_lt_of_le (Nat.lt_of_lt_of_le F.lt' E269.1) E274.1) gv276))) (wd hw 87 rfl) (wd hw 67 rfl) (by decide) (by decide)) (kc := 0) (ks := 0) (by decide) (by decide) (allS z274 (allS zv276 all0)) (fun _ => (sfS (Safe.exa A284.hZ.alike B284.1 (by decide) (by decide)) (sfS c289 sf0))) fun v288 T288 h288 L288 A288 K288 q288 => ?_
  have Q290 : Keep h0 h288 [] := Q286.trans K288 (allS (Or.inr y274) (allS (Or.inr (Nat.le_trans Q275.1 gv276)) all0))
  obtain ⟨rfl, B288⟩ := q288
  have B288 : SBd Z h288 a274 v276 kb276 16 ((es ++ [(46 : Int32)]) ++ [c0, c1]) := B288
  show Wp pG e below _ T288 (mkF m 33 _ [(.ref a274)])
  refine f_callV A288 (a := a274) d5_33 (pc' := 36) rfl (wd hw 125 rfl) (wd hw 126 rfl) (nfS A288 (wd hw 128 rfl)) (wd hw 128 rfl) (wd hw 127 rfl) (by decide) B288.1 pd18 [] [] rfl rfl rfl 0 (Nat.le_of_eq rfl) (CN.pay (W := 0) A288 (m_sbS l Z a0 hw a274 v276 kb276 16 ((es ++ [(46 : Int32)]) ++ [c0, c1]) zc O2 P5 h288 n0 A288.old B288 (by simp only [List.length_append, List.length_cons, List.length_nil]; omega) (by decide) (by simp only [List.length_append, List.length_cons, List.length_nil]; omega) (la (la hes (by decide)) (lc r0 (lc r1 ln)))) (wd hw 129 rfl) (wd hw 67 rfl) (by decide) (by decide)) (kc := 2) (ks := 70) (by decide) (by decide) all0 (fun _ => sf0) fun v291 T291 h291 L291 A291 K291 q291 => ?_
  have Q292 : Keep h0 h291 [] := Q290.trans K291 all0
  obtain ⟨x291, t291, rfl, zx291, xg291, tg291, G291⟩ := q291
  show Wp pG e below _ T291 (mkF m 36 _ [(.ref x291)])
  exact f_retRW A291 hEL hlk hret d5_36 rfl rfl (by decide) (by decide) Q292 ⟨x291, t291, rfl, (Nat.le_trans Q290.1 xg291), G291⟩
set_option maxRecDepth 65536 in
set_option maxHeartbeats 40000000 in
theorem m_xi3 (l : Launch) (Z : State) (a0 : Array Value) (hw : ∀ d ∈ tables_1, d.before a0 Z = true) (t u : Addr) (kb ku : ClassId) (c0 c1 c2 : Int32) (h0 : Heap) (n0 : Nat) (ho : Old Z n0 h0) (V : Arv Z h0 t kb .byte 3 [(.int (StrChars.lo8 c0)), (.int (StrChars.lo8 c1)), (.int (StrChars.lo8 c2))] (.int 0)) (D : Arv Z h0 u ku .byte 1 [(.int (StrChars.lo8 46))] (.int 0)) (r0 : ¬ c0 < 0 ∧ ¬ (255 : Int32) < c0) (r1 : ¬ c1 < 0 ∧ ¬ (255 : Int32) < c1) (r2 : ¬ c2 < 0 ∧ ¬ (255 : Int32) < c2) :
    CN l (⟨"java/lang/StringLatin1", "indexOf", "([BI[BII)I"⟩ : MethodName) jdk_43_method_25_code 11 (some .int) [] ({ frames := 0, cells := 0, slots := 0, locals := 0 } : Room) Z n0 h0 #[(.ref t), (.int (3 : Int32)), (.ref u), (.int (1 : Int32)), (.int (0 : Int32))] [] (fun v h => v = some (.int (idxD [c0, c1, c2] 0)) ∧ h = h0) := by
  refine CN.walk (plainFor_of_name pn5) ho (L0 := #[.val (.ref t), .val (.int (3 : Int32)), .val (.ref u), .val (.int (1 : Int32)), .val (.int (0 : Int32)), .unset, .unset, .unset, .unset, .unset, .unset]) (fun m => rfl) ?_
  intro pG e s m below meth cO T hlk hret hnm A0
  have K0 : Keep h0 h0 [] := Keep.refl _ _
  refine f_aloadN A0 d41_0 (pc' := 1) rfl rfl rfl ?_
  refine f_iconst A0 d41_1 (pc' := 2) rfl 0 rfl ?_
  refine f_baload A0 d41_2 (pc' := 3) rfl D ⟨by decide, by decide⟩ rfl ?_
  refine f_istore A0 d41_3 (pc' := 5) rfl (L' := #[.val (.ref t), .val (.int (3 : Int32)), .val (.ref u), .val (.int (1 : Int32)), .val (.int (0 : Int32)), .val (.int (StrChars.lo8 46)), .unset, .unset, .unset, .unset, .unset]) rfl ?_
  refine f_iloadN A0 d41_5 (pc' := 6) rfl rfl ?_
  refine f_iloadN A0 d41_6 (pc' := 7) rfl rfl ?_
  refine f_isub A0 d41_7 (pc' := 8) rfl (2 : Int32) (by decide) ?_
  refine f_istore A0 d41_8 (pc' := 10) rfl (L' := #[.val (.ref t), .val (.int (3 : Int32)), .val (.ref u), .val (.int (1 : Int32)), .val (.int (0 : Int32)), .val (.int (StrChars.lo8 46)), .val (.int (2 : Int32)), .unset, .unset, .unset, .unset]) rfl ?_
  refine f_iload A0 d41_10 (pc' := 12) rfl rfl ?_
  refine f_istore A0 d41_12 (pc' := 14) rfl (L' := #[.val (.ref t), .val (.int (3 : Int32)), .val (.ref u), .val (.int (1 : Int32)), .val (.int (0 : Int32)), .val (.int (StrChars.lo8 46)), .val (.int (2 : Int32)), .val (.int (0 : Int32)), .unset, .unset, .unset]) rfl ?_
  refine f_iload A0 d41_14 (pc' := 16) rfl rfl ?_
  refine f_iload A0 d41_16 (pc' := 18) rfl rfl ?_
  refine f_icN A0 d41_18 (flt (by decide : ¬ (2 : Int32) < (0 : Int32))).2.2.1 (pc' := 21) rfl ?_
  refine f_aloadN A0 d41_21 (pc' := 22) rfl rfl rfl ?_
  refine f_iload A0 d41_22 (pc' := 24) rfl rfl ?_
  refine f_baload A0 d41_24 (pc' := 25) rfl V ⟨by decide, by decide⟩ rfl ?_
  refine f_iload A0 d41_25 (pc' := 27) rfl rfl ?_
  by_cases q0 : c0 = 46
  · refine f_icY A0 d41_27 (teq ((lo46 r0).mpr q0)).1 (pc' := 52) (by decide) (by decide) ?_
    refine f_iload A0 d41_52 (pc' := 54) rfl rfl ?_
    refine f_iload A0 d41_54 (pc' := 56) rfl rfl ?_
    refine f_icN A0 d41_56 (flt (by decide : ¬ (2 : Int32) < (0 : Int32))).2.2.1 (pc' := 59) rfl ?_
    refine f_iload A0 d41_59 (pc' := 61) rfl rfl ?_
    refine f_iconst A0 d41_61 (pc' := 62) rfl 1 rfl ?_
    refine f_iadd A0 d41_62 (pc' := 63) rfl (1 : Int32) (by decide) ?_
    refine f_istore A0 d41_63 (pc' := 65) rfl (L' := #[.val (.ref t), .val (.int (3 : Int32)), .val (.ref u), .val (.int (1 : Int32)), .val (.int (0 : Int32)), .val (.int (StrChars.lo8 46)), .val (.int (2 : Int32)), .val (.int (0 : Int32)), .val (.int (1 : Int32)), .unset, .unset]) rfl ?_
    refine f_iload A0 d41_65 (pc' := 67) rfl rfl ?_
    refine f_iloadN A0 d41_67 (pc' := 68) rfl rfl ?_
    refine f_iadd A0 d41_68 (pc' := 69) rfl (2 : Int32) (by decide) ?_
    refine f_iconst A0 d41_69 (pc' := 70) rfl 1 rfl ?_
    refine f_isub A0 d41_70 (pc' := 71) rfl (1 : Int32) (by decide) ?_
    refine f_istore A0 d41_71 (pc' := 73) rfl (L' := #[.val (.ref t), .val (.int (3 : Int32)), .val (.ref u), .val (.int (1 : Int32)), .val (.int (0 : Int32)), .val (.int (StrChars.lo8 46)), .val (.int (2 : Int32)), .val (.int (0 : Int32)), .val (.int (1 : Int32)), .val (.int (1 : Int32)), .unset]) rfl ?_
    refine f_iconst A0 d41_73 (pc' := 74) rfl 1 rfl ?_
    refine f_istore A0 d41_74 (pc' := 76) rfl (L' := #[.val (.ref t), .val (.int (3 : Int32)), .val (.ref u), .val (.int (1 : Int32)), .val (.int (0 : Int32)), .val (.int (StrChars.lo8 46)), .val (.int (2 : Int32)), .val (.int (0 : Int32)), .val (.int (1 : Int32)), .val (.int (1 : Int32)), .val (.int (1 : Int32))]) rfl ?_
    refine f_iload A0 d41_76 (pc' := 78) rfl rfl ?_
    refine f_iload A0 d41_78 (pc' := 80) rfl rfl ?_
    refine f_icY A0 d41_80 (flt (by decide : ¬ (1 : Int32) < (1 : Int32))).2.1 (pc' := 103) (by decide) (by decide) ?_
    refine f_iload A0 d41_103 (pc' := 105) rfl rfl ?_
    refine f_iload A0 d41_105 (pc' := 107) rfl rfl ?_
    refine f_icN A0 d41_107 (teq (by decide : (1 : Int32) = (1 : Int32))).2 (pc' := 110) rfl ?_
    refine f_iload A0 d41_110 (pc' := 112) rfl rfl ?_
    exact f_retIN A0 hlk hret d41_112 (by decide) (by decide) K0 ⟨by simp [idxD, *], rfl⟩
  · refine f_icN A0 d41_27 (feq (fun q => q0 ((lo46 r0).mp q))).1 (pc' := 30) rfl ?_
    refine f_iinc A0 d41_30 (pc' := 33) rfl rfl (1 : Int32) (by decide) (L' := #[.val (.ref t), .val (.int (3 : Int32)), .val (.ref u), .val (.int (1 : Int32)), .val (.int (0 : Int32)), .val (.int (StrChars.lo8 46)), .val (.int (2 : Int32)), .val (.int (1 : Int32)), .unset, .unset, .unset]) rfl ?_
    refine f_iload A0 d41_33 (pc' := 35) rfl rfl ?_
    refine f_iload A0 d41_35 (pc' := 37) rfl rfl ?_
    refine f_icN A0 d41_37 (flt (by decide : ¬ (2 : Int32) < (1 : Int32))).2.2.1 (pc' := 40) rfl ?_
    refine f_aloadN A0 d41_40 (pc' := 41) rfl rfl rfl ?_
    refine f_iload A0 d41_41 (pc' := 43) rfl rfl ?_
    refine f_baload A0 d41_43 (pc' := 44) rfl V ⟨by decide, by decide⟩ rfl ?_
    refine f_iload A0 d41_44 (pc' := 46) rfl rfl ?_
    by_cases q1 : c1 = 46
    · refine f_icY A0 d41_46 (teq ((lo46 r1).mpr q1)).1 (pc' := 52) (by decide) (by decide) ?_
      refine f_iload A0 d41_52 (pc' := 54) rfl rfl ?_
      refine f_iload A0 d41_54 (pc' := 56) rfl rfl ?_
      refine f_icN A0 d41_56 (flt (by decide : ¬ (2 : Int32) < (1 : Int32))).2.2.1 (pc' := 59) rfl ?_
      refine f_iload A0 d41_59 (pc' := 61) rfl rfl ?_
      refine f_iconst A0 d41_61 (pc' := 62) rfl 1 rfl ?_
      refine f_iadd A0 d41_62 (pc' := 63) rfl (2 : Int32) (by decide) ?_
      refine f_istore A0 d41_63 (pc' := 65) rfl (L' := #[.val (.ref t), .val (.int (3 : Int32)), .val (.ref u), .val (.int (1 : Int32)), .val (.int (0 : Int32)), .val (.int (StrChars.lo8 46)), .val (.int (2 : Int32)), .val (.int (1 : Int32)), .val (.int (2 : Int32)), .unset, .unset]) rfl ?_
      refine f_iload A0 d41_65 (pc' := 67) rfl rfl ?_
      refine f_iloadN A0 d41_67 (pc' := 68) rfl rfl ?_
      refine f_iadd A0 d41_68 (pc' := 69) rfl (3 : Int32) (by decide) ?_
      refine f_iconst A0 d41_69 (pc' := 70) rfl 1 rfl ?_
      refine f_isub A0 d41_70 (pc' := 71) rfl (2 : Int32) (by decide) ?_
      refine f_istore A0 d41_71 (pc' := 73) rfl (L' := #[.val (.ref t), .val (.int (3 : Int32)), .val (.ref u), .val (.int (1 : Int32)), .val (.int (0 : Int32)), .val (.int (StrChars.lo8 46)), .val (.int (2 : Int32)), .val (.int (1 : Int32)), .val (.int (2 : Int32)), .val (.int (2 : Int32)), .unset]) rfl ?_
      refine f_iconst A0 d41_73 (pc' := 74) rfl 1 rfl ?_
      refine f_istore A0 d41_74 (pc' := 76) rfl (L' := #[.val (.ref t), .val (.int (3 : Int32)), .val (.ref u), .val (.int (1 : Int32)), .val (.int (0 : Int32)), .val (.int (StrChars.lo8 46)), .val (.int (2 : Int32)), .val (.int (1 : Int32)), .val (.int (2 : Int32)), .val (.int (2 : Int32)), .val (.int (1 : Int32))]) rfl ?_
      refine f_iload A0 d41_76 (pc' := 78) rfl rfl ?_
      refine f_iload A0 d41_78 (pc' := 80) rfl rfl ?_
      refine f_icY A0 d41_80 (flt (by decide : ¬ (2 : Int32) < (2 : Int32))).2.1 (pc' := 103) (by decide) (by decide) ?_
      refine f_iload A0 d41_103 (pc' := 105) rfl rfl ?_
      refine f_iload A0 d41_105 (pc' := 107) rfl rfl ?_
      refine f_icN A0 d41_107 (teq (by decide : (2 : Int32) = (2 : Int32))).2 (pc' := 110) rfl ?_
      refine f_iload A0 d41_110 (pc' := 112) rfl rfl ?_
      exact f_retIN A0 hlk hret d41_112 (by decide) (by decide) K0 ⟨by simp [idxD, *], rfl⟩
    · refine f_icN A0 d41_46 (feq (fun q => q1 ((lo46 r1).mp q))).1 (pc' := 49) rfl ?_
      refine f_goto A0 d41_49 (pc' := 30) (by decide) (by decide) ?_
      refine f_iinc A0 d41_30 (pc' := 33) rfl rfl (2 : Int32) (by decide) (L' := #[.val (.ref t), .val (.int (3 : Int32)), .val (.ref u), .val (.int (1 : Int32)), .val (.int (0 : Int32)), .val (.int (StrChars.lo8 46)), .val (.int (2 : Int32)), .val (.int (2 : Int32)), .unset, .unset, .unset]) rfl ?_
      refine f_iload A0 d41_33 (pc' := 35) rfl rfl ?_
      refine f_iload A0 d41_35 (pc' := 37) rfl rfl ?_
      refine f_icN A0 d41_37 (flt (by decide : ¬ (2 : Int32) < (2 : Int32))).2.2.1 (pc' := 40) rfl ?_
      refine f_aloadN A0 d41_40 (pc' := 41) rfl rfl rfl ?_
      refine f_iload A0 d41_41 (pc' := 43) rfl rfl ?_
      refine f_baload A0 d41_43 (pc' := 44) rfl V ⟨by decide, by decide⟩ rfl ?_
      refine f_iload A0 d41_44 (pc' := 46) rfl rfl ?_
      by_cases q2 : c2 = 46
      · refine f_icY A0 d41_46 (teq ((lo46 r2).mpr q2)).1 (pc' := 52) (by decide) (by decide) ?_
        refine f_iload A0 d41_52 (pc' := 54) rfl rfl ?_
        refine f_iload A0 d41_54 (pc' := 56) rfl rfl ?_
        refine f_icN A0 d41_56 (flt (by decide : ¬ (2 : Int32) < (2 : Int32))).2.2.1 (pc' := 59) rfl ?_
        refine f_iload A0 d41_59 (pc' := 61) rfl rfl ?_
        refine f_iconst A0 d41_61 (pc' := 62) rfl 1 rfl ?_
        refine f_iadd A0 d41_62 (pc' := 63) rfl (3 : Int32) (by decide) ?_
        refine f_istore A0 d41_63 (pc' := 65) rfl (L' := #[.val (.ref t), .val (.int (3 : Int32)), .val (.ref u), .val (.int (1 : Int32)), .val (.int (0 : Int32)), .val (.int (StrChars.lo8 46)), .val (.int (2 : Int32)), .val (.int (2 : Int32)), .val (.int (3 : Int32)), .unset, .unset]) rfl ?_
        refine f_iload A0 d41_65 (pc' := 67) rfl rfl ?_
        refine f_iloadN A0 d41_67 (pc' := 68) rfl rfl ?_
        refine f_iadd A0 d41_68 (pc' := 69) rfl (4 : Int32) (by decide) ?_
        refine f_iconst A0 d41_69 (pc' := 70) rfl 1 rfl ?_
        refine f_isub A0 d41_70 (pc' := 71) rfl (3 : Int32) (by decide) ?_
        refine f_istore A0 d41_71 (pc' := 73) rfl (L' := #[.val (.ref t), .val (.int (3 : Int32)), .val (.ref u), .val (.int (1 : Int32)), .val (.int (0 : Int32)), .val (.int (StrChars.lo8 46)), .val (.int (2 : Int32)), .val (.int (2 : Int32)), .val (.int (3 : Int32)), .val (.int (3 : Int32)), .unset]) rfl ?_
        refine f_iconst A0 d41_73 (pc' := 74) rfl 1 rfl ?_
        refine f_istore A0 d41_74 (pc' := 76) rfl (L' := #[.val (.ref t), .val (.int (3 : Int32)), .val (.ref u), .val (.int (1 : Int32)), .val (.int (0 : Int32)), .val (.int (StrChars.lo8 46)), .val (.int (2 : Int32)), .val (.int (2 : Int32)), .val (.int (3 : Int32)), .val (.int (3 : Int32)), .val (.int (1 : Int32))]) rfl ?_
        refine f_iload A0 d41_76 (pc' := 78) rfl rfl ?_
        refine f_iload A0 d41_78 (pc' := 80) rfl rfl ?_
        refine f_icY A0 d41_80 (flt (by decide : ¬ (3 : Int32) < (3 : Int32))).2.1 (pc' := 103) (by decide) (by decide) ?_
        refine f_iload A0 d41_103 (pc' := 105) rfl rfl ?_
        refine f_iload A0 d41_105 (pc' := 107) rfl rfl ?_
        refine f_icN A0 d41_107 (teq (by decide : (3 : Int32) = (3 : Int32))).2 (pc' := 110) rfl ?_
        refine f_iload A0 d41_110 (pc' := 112) rfl rfl ?_
        exact f_retIN A0 hlk hret d41_112 (by decide) (by decide) K0 ⟨by simp [idxD, *], rfl⟩
      · refine f_icN A0 d41_46 (feq (fun q => q2 ((lo46 r2).mp q))).1 (pc' := 49) rfl ?_
        refine f_goto A0 d41_49 (pc' := 30) (by decide) (by decide) ?_
        refine f_iinc A0 d41_30 (pc' := 33) rfl rfl (3 : Int32) (by decide) (L' := #[.val (.ref t), .val (.int (3 : Int32)), .val (.ref u), .val (.int (1 : Int32)), .val (.int (0 : Int32)), .val (.int (StrChars.lo8 46)), .val (.int (2 : Int32)), .val (.int (3 : Int32)), .unset, .unset, .unset]) rfl ?_
        refine f_iload A0 d41_33 (pc' := 35) rfl rfl ?_
        refine f_iload A0 d41_35 (pc' := 37) rfl rfl ?_
        refine f_icY A0 d41_37 (tlt (by decide : (2 : Int32) < (3 : Int32))).2.2.1 (pc' := 52) (by decide) (by decide) ?_
        refine f_iload A0 d41_52 (pc' := 54) rfl rfl ?_
        refine f_iload A0 d41_54 (pc' := 56) rfl rfl ?_
        refine f_icY A0 d41_56 (tlt (by decide : (2 : Int32) < (3 : Int32))).2.2.1 (pc' := 113) (by decide) (by decide) ?_
        refine f_iinc A0 d41_113 (pc' := 116) rfl rfl (4 : Int32) (by decide) (L' := #[.val (.ref t), .val (.int (3 : Int32)), .val (.ref u), .val (.int (1 : Int32)), .val (.int (0 : Int32)), .val (.int (StrChars.lo8 46)), .val (.int (2 : Int32)), .val (.int (4 : Int32)), .unset, .unset, .unset]) rfl ?_
        refine f_goto A0 d41_116 (pc' := 14) (by decide) (by decide) ?_
        refine f_iload A0 d41_14 (pc' := 16) rfl rfl ?_
        refine f_iload A0 d41_16 (pc' := 18) rfl rfl ?_
        refine f_icY A0 d41_18 (tlt (by decide : (2 : Int32) < (4 : Int32))).2.2.1 (pc' := 119) (by decide) (by decide) ?_
        refine f_iconst A0 d41_119 (pc' := 120) rfl (-1) rfl ?_
        exact f_retIN A0 hlk hret d41_120 (by decide) (by decide) K0 ⟨by simp [idxD, *], rfl⟩
set_option maxRecDepth 65536 in
set_option maxHeartbeats 40000000 in
theorem m_xl3 (l : Launch) (Z : State) (a0 : Array Value) (hw : ∀ d ∈ tables_1, d.before a0 Z = true) (t u : Addr) (kb ku : ClassId) (c0 c1 c2 : Int32) (h0 : Heap) (n0 : Nat) (ho : Old Z n0 h0) (V : Arv Z h0 t kb .byte 3 [(.int (StrChars.lo8 c0)), (.int (StrChars.lo8 c1)), (.int (StrChars.lo8 c2))] (.int 0)) (D : Arv Z h0 u ku .byte 1 [(.int (StrChars.lo8 46))] (.int 0)) (r0 : ¬ c0 < 0 ∧ ¬ (255 : Int32) < c0) (r1 : ¬ c1 < 0 ∧ ¬ (255 : Int32) < c1) (r2 : ¬ c2 < 0 ∧ ¬ (255 : Int32) < c2) :
    CN l (⟨"java/lang/StringLatin1", "indexOf", "([B[B)I"⟩ : MethodName) jdk_43_method_24_code 2 (some .int) [] ({ frames := 1, cells := 0, slots := 0, locals := 30 } : Room) Z n0 h0 #[(.ref t), (.ref u)] [] (fun v h => v = some (.int (idxD [c0, c1, c2] 0)) ∧ h = h0) := by
  refine CN.walk (plainFor_of_name pn5) ho (L0 := #[.val (.ref t), .val (.ref u)]) (fun m => rfl) ?_
  intro pG e s m below meth cO T hlk hret hnm A0
  have K0 : Keep h0 h0 [] := Keep.refl _ _
  refine f_aloadN A0 d11_0 (pc' := 1) rfl rfl rfl ?_
  refine f_arraylength A0 d11_1 (pc' := 2) rfl D ?_
  refine f_ifY A0 d11_2 ((if0 _ _).trans (feq (by decide : ¬ (1 : Int32) = (0 : Int32))).2) (pc' := 7) (by decide) (by decide) ?_
  refine f_aloadN A0 d11_7 (pc' := 8) rfl rfl rfl ?_
  refine f_arraylength A0 d11_8 (pc' := 9) rfl V ?_
  refine f_ifY A0 d11_9 ((if0 _ _).trans (feq (by decide : ¬ (3 : Int32) = (0 : Int32))).2) (pc' := 14) (by decide) (by decide) ?_
  refine f_aloadN A0 d11_14 (pc' := 15) rfl rfl rfl ?_
  refine f_aloadN A0 d11_15 (pc' := 16) rfl rfl rfl ?_
  refine f_arraylength A0 d11_16 (pc' := 17) rfl V ?_
  refine f_aloadN A0 d11_17 (pc' := 18) rfl rfl rfl ?_
  refine f_aloadN A0 d11_18 (pc' := 19) rfl rfl rfl ?_
  refine f_arraylength A0 d11_19 (pc' := 20) rfl D ?_
  refine f_iconst A0 d11_20 (pc' := 21) rfl 0 rfl ?_
  refine f_callS A0 d11_21 (pc' := 24) rfl (wd hw 203 rfl) (wd hw 204 rfl) (wd hw 63 rfl) (wd hw 205 rfl) (by decide) pd23 [(.ref t), (.int (3 : Int32)), (.ref u), (.int (1 : Int32)), (.int (0 : Int32))] [] rfl rfl rfl 0 (Nat.le_of_eq rfl) (CN.pay (W := 0) A0 (m_xi3 l Z a0 hw t u kb ku c0 c1 c2 h0 n0 A0.old V D r0 r1 r2) (wd hw 205 rfl) (wd hw 63 rfl) (by decide) (by decide)) (kc := 0) (ks := 0) (by decide) (by decide) all0 (fun q => nomatch q) fun v293 T293 h293 L293 A293 K293 q293 => ?_
  obtain ⟨rfl, hh293⟩ := q293
  obtain rfl := hh293.symm
  show Wp pG e below _ T293 (mkF m 24 _ [(.int (idxD [c0, c1, c2] 0))])
  exact f_retIN A293 hlk hret d11_24 (by decide) (by decide) K0 ⟨rfl, rfl⟩
set_option maxRecDepth 65536 in
set_option maxHeartbeats 40000000 in
theorem m_xs3 (l : Launch) (Z : State) (a0 : Array Value) (hw : ∀ d ∈ tables_1, d.before a0 Z = true) (x t d u : Addr) (c0 c1 c2 : Int32) (zc : Int32) (O2 : Sta Z Z.heap "java/lang/String" "COMPACT_STRINGS" "Z" (.int zc)) (P5 : ¬ zc = 0) (h0 : Heap) (n0 : Nat) (ho : Old Z n0 h0) (F : Str Z h0 x t [c0, c1, c2]) (G : Str Z h0 d u [46]) (r0 : ¬ c0 < 0 ∧ ¬ (255 : Int32) < c0) (r1 : ¬ c1 < 0 ∧ ¬ (255 : Int32) < c1) (r2 : ¬ c2 < 0 ∧ ¬ (255 : Int32) < c2) :
    CN l (⟨"java/lang/String", "indexOf", "(Ljava/lang/String;)I"⟩ : MethodName) jdk_42_method_84_code 3 (some .int) [] ({ frames := 2, cells := 0, slots := 0, locals := 50 } : Room) Z n0 h0 #[(.ref x), (.ref d)] [] (fun v h => v = some (.int (idxD [c0, c1, c2] 0)) ∧ h = h0) := by
  refine CN.walk (plainFor_of_name pn0) ho (L0 := #[.val (.ref x), .val (.ref d), .unset]) (fun m => rfl) ?_
  intro pG e s m below meth cO T hlk hret hnm A0
  have K0 : Keep h0 h0 [] := Keep.refl _ _
  obtain ⟨kb294, fv294, fc294, av294⟩ := F.open (lc r0.2 (lc r1.2 (lc r2.2 ln)))
  have av294 : Arv Z h0 t kb294 .byte (3 : Int32) [(.int (StrChars.lo8 c0)), (.int (StrChars.lo8 c1)), (.int (StrChars.lo8 c2))] (.int 0) := av294
  obtain ⟨kb295, fv295, fc295, av295⟩ := G.open (by decide)
  have av295 : Arv Z h0 u kb295 .byte (1 : Int32) [(.int (StrChars.lo8 (46 : Int32)))] (.int 0) := av295
  refine f_aloadN A0 d8_0 (pc' := 1) rfl rfl rfl ?_
  refine f_callV A0 (a := x) d8_1 (pc' := 4) rfl (wd hw 50 rfl) (wd hw 51 rfl) (nfS A0 (wd hw 53 rfl)) (wd hw 53 rfl) (wd hw 52 rfl) (by decide) F.exa pd2 [] [] rfl rfl rfl 0 (Nat.le_of_eq rfl) (CN.pay (W := 0) A0 (m_cod0 l Z a0 hw x zc O2 P5 h0 n0 A0.old fc294) (wd hw 54 rfl) (wd hw 6 rfl) (by decide) (by decide)) (kc := 0) (ks := 0) (by decide) (by decide) all0 (fun q => nomatch q) fun v296 T296 h296 L296 A296 K296 q296 => ?_
  obtain ⟨rfl, hh296⟩ := q296
  obtain rfl := hh296.symm
  show Wp pG e below _ T296 (mkF m 4 _ [(.int (0 : Int32))])
  refine f_istoreN A296 d8_4 (pc' := 5) rfl (L' := #[.val (.ref x), .val (.ref d), .val (.int (0 : Int32))]) rfl ?_
  refine f_iloadN A296 d8_5 (pc' := 6) rfl rfl ?_
  refine f_aloadN A296 d8_6 (pc' := 7) rfl rfl rfl ?_
  refine f_callV A296 (a := d) d8_7 (pc' := 10) rfl (wd hw 50 rfl) (wd hw 51 rfl) (nfS A296 (wd hw 53 rfl)) (wd hw 53 rfl) (wd hw 52 rfl) (by decide) G.exa pd2 [] [(.int (0 : Int32))] rfl rfl rfl 1 (Nat.le_of_eq rfl) (CN.pay (W := 1) A296 (m_cod0 l Z a0 hw d zc O2 P5 h0 n0 A296.old fc295) (wd hw 54 rfl) (wd hw 6 rfl) (by decide) (by decide)) (kc := 0) (ks := 0) (by decide) (by decide) all0 (fun q => nomatch q) fun v297 T297 h297 L297 A297 K297 q297 => ?_
  obtain ⟨rfl, hh297⟩ := q297
  obtain rfl := hh297.symm
  show Wp pG e below _ T297 (mkF m 10 _ [(.int (0 : Int32)), (.int (0 : Int32))])
  refine f_icN A297 d8_10 (teq (by decide : (0 : Int32) = (0 : Int32))).2 (pc' := 13) rfl ?_
  refine f_aloadN A297 d8_13 (pc' := 14) rfl rfl rfl ?_
  refine f_callV A297 (a := x) d8_14 (pc' := 17) rfl (wd hw 56 rfl) (wd hw 57 rfl) (nfS A297 (wd hw 59 rfl)) (wd hw 59 rfl) (wd hw 58 rfl) (by decide) F.exa pd12 [] [] rfl rfl rfl 0 (Nat.le_of_eq rfl) (CN.pay (W := 0) A297 (m_isLat l Z a0 hw x zc O2 P5 h0 n0 A297.old fc294) (wd hw 60 rfl) (wd hw 6 rfl) (by decide) (by decide)) (kc := 0) (ks := 0) (by decide) (by decide) all0 (fun q => nomatch q) fun v298 T298 h298 L298 A298 K298 q298 => ?_
  obtain ⟨rfl, hh298⟩ := q298
  obtain rfl := hh298.symm
  show Wp pG e below _ T298 (mkF m 17 _ [(.int (1 : Int32))])
  refine f_ifN A298 d8_17 ((if0 _ _).trans (feq (by decide : ¬ (1 : Int32) = (0 : Int32))).1) (pc' := 20) rfl ?_
  refine f_aloadN A298 d8_20 (pc' := 21) rfl rfl rfl ?_
  refine f_getF A298 d8_21 (pc' := 24) rfl (host := "") (Or.inl (wd hw 24 rfl)) Via.refl fv294 fun T299 A299 => ?_
  refine f_aloadN A299 d8_24 (pc' := 25) rfl rfl rfl ?_
  refine f_getF A299 d8_25 (pc' := 28) rfl (host := "") (Or.inl (wd hw 24 rfl)) Via.refl fv295 fun T300 A300 => ?_
  refine f_callS A300 d8_28 (pc' := 31) rfl (wd hw 61 rfl) (wd hw 62 rfl) (wd hw 63 rfl) (wd hw 64 rfl) (by decide) pd17 [(.ref t), (.ref u)] [] rfl rfl rfl 0 (Nat.le_of_eq rfl) (CN.pay (W := 0) A300 (m_xl3 l Z a0 hw t u kb294 kb295 c0 c1 c2 h0 n0 A300.old av294 av295 r0 r1 r2) (wd hw 64 rfl) (wd hw 63 rfl) (by decide) (by decide)) (kc := 0) (ks := 0) (by decide) (by decide) all0 (fun q => nomatch q) fun v301 T301 h301 L301 A301 K301 q301 => ?_
  obtain ⟨rfl, hh301⟩ := q301
  obtain rfl := hh301.symm
  show Wp pG e below _ T301 (mkF m 31 _ [(.int (idxD [c0, c1, c2] 0))])
  refine f_goto A301 d8_31 (pc' := 45) (by decide) (by decide) ?_
  exact f_retIN A301 hlk hret d8_45 (by decide) (by decide) K0 ⟨rfl, rfl⟩
set_option maxRecDepth 65536 in
set_option maxHeartbeats 40000000 in
theorem m_con3 (l : Launch) (Z : State) (a0 : Array Value) (hw : ∀ d ∈ tables_1, d.before a0 Z = true) (x t d u : Addr) (c0 c1 c2 : Int32) (zc : Int32) (O2 : Sta Z Z.heap "java/lang/String" "COMPACT_STRINGS" "Z" (.int zc)) (P5 : ¬ zc = 0) (r : Int32) (h0 : Heap) (n0 : Nat) (ho : Old Z n0 h0) (F : Str Z h0 x t [c0, c1, c2]) (G : Str Z h0 d u [46]) (r0 : ¬ c0 < 0 ∧ ¬ (255 : Int32) < c0) (r1 : ¬ c1 < 0 ∧ ¬ (255 : Int32) < c1) (r2 : ¬ c2 < 0 ∧ ¬ (255 : Int32) < c2) (hr : (if idxD [c0, c1, c2] 0 < 0 then 0 else 1) = r) :
    CN l (⟨"java/lang/String", "contains", "(Ljava/lang/CharSequence;)Z"⟩ : MethodName) jdk_42_method_97_code 2 (some .boolean) [] ({ frames := 3, cells := 0, slots := 0, locals := 70 } : Room) Z n0 h0 #[(.ref x), (.ref d)] [] (fun v h => v = some (.int r) ∧ h = h0) := by
  refine CN.walk (plainFor_of_name pn0) ho (L0 := #[.val (.ref x), .val (.ref d)]) (fun m => rfl) ?_
  intro pG e s m below meth cO T hlk hret hnm A0
  have K0 : Keep h0 h0 [] := Keep.refl _ _
  refine f_aloadN A0 d6_0 (pc' := 1) rfl rfl rfl ?_
  refine f_aloadN A0 d6_1 (pc' := 2) rfl rfl rfl ?_
  refine f_callF A0 (a := d) d6_2 (pc' := 7) rfl (wd hw 36 rfl) (wd hw 37 rfl) (wd hw 38 rfl) (by first | rfl | decide) (wd hw 39 rfl) (wd hw 40 rfl) (wd hw 41 rfl) (wd hw 42 rfl) (wd hw 43 rfl) (by decide) G.exa pd18 [] [(.ref x)] rfl rfl rfl 1 (Nat.le_of_eq rfl) (CN.pay (W := 1) A0 (m_toS l Z a0 hw d h0 n0 A0.old) (wd hw 44 rfl) (wd hw 6 rfl) (by decide) (by decide)) (kc := 0) (ks := 0) (by decide) (by decide) all0 (fun q => nomatch q) fun v302 T302 h302 L302 A302 K302 q302 => ?_
  obtain ⟨rfl, hh302⟩ := q302
  obtain rfl := hh302.symm
  show Wp pG e below _ T302 (mkF m 7 _ [(.ref d), (.ref x)])
  refine f_callV A302 (a := x) d6_7 (pc' := 10) rfl (wd hw 45 rfl) (wd hw 46 rfl) (nfS A302 (wd hw 48 rfl)) (wd hw 48 rfl) (wd hw 47 rfl) (by decide) F.exa pd19 [(.ref d)] [] rfl rfl rfl 0 (Nat.le_of_eq rfl) (CN.pay (W := 0) A302 (m_xs3 l Z a0 hw x t d u c0 c1 c2 zc O2 P5 h0 n0 A302.old F G r0 r1 r2) (wd hw 49 rfl) (wd hw 6 rfl) (by decide) (by decide)) (kc := 0) (ks := 0) (by decide) (by decide) all0 (fun q => nomatch q) fun v303 T303 h303 L303 A303 K303 q303 => ?_
  obtain ⟨rfl, hh303⟩ := q303
  obtain rfl := hh303.symm
  show Wp pG e below _ T303 (mkF m 10 _ [(.int (idxD [c0, c1, c2] 0))])
  by_cases q : (idxD [c0, c1, c2] 0) < (0 : Int32)
  · refine f_ifY A303 d6_10 ((if0 _ _).trans (tlt q).1) (pc' := 17) (by decide) (by decide) ?_
    refine f_iconst A303 d6_17 (pc' := 18) rfl 0 rfl ?_
    exact f_retBN A303 hlk hret d6_18 (by decide) (0 : Int32) (by decide) (by decide) (by decide) K0 ⟨by rw [← hr, if_pos q], rfl⟩
  · refine f_ifN A303 d6_10 ((if0 _ _).trans (flt q).1) (pc' := 13) rfl ?_
    refine f_iconst A303 d6_13 (pc' := 14) rfl 1 rfl ?_
    refine f_goto A303 d6_14 (pc' := 18) (by decide) (by decide) ?_
    exact f_retBN A303 hlk hret d6_18 (by decide) (1 : Int32) (by decide) (by decide) (by decide) K0 ⟨by rw [← hr, if_neg q], rfl⟩
set_option maxRecDepth 65536 in
set_option maxHeartbeats 40000000 in
theorem m_qd3 (l : Launch) (Z : State) (a0 : Array Value) (hw : ∀ d ∈ tables_1, d.before a0 Z = true) (z x t : Addr) (c0 c1 c2 : Int32) (zc : Int32) (O2 : Sta Z Z.heap "java/lang/String" "COMPACT_STRINGS" "Z" (.int zc)) (P5 : ¬ zc = 0) (h0 : Heap) (n0 : Nat) (ho : Old Z n0 h0) (hEL : EW Z a0 ELs) (F : Str Z h0 x t [c0, c1, c2]) (r0 : ¬ c0 < 0 ∧ ¬ (255 : Int32) < c0) (r1 : ¬ c1 < 0 ∧ ¬ (255 : Int32) < c1) (r2 : ¬ c2 < 0 ∧ ¬ (255 : Int32) < c2) (hdot : (if idxD [c0, c1, c2] 0 < 0 then (0 : Int32) else 1) = 1) :
    CW l (⟨"com/example/mapwright/mapwright/config/MapperReader", "qualified", "(Ljava/lang/String;Ljava/lang/String;)Ljava/lang/String;"⟩ : MethodName) prog_26_method_11_code 2 (some (.object "java/lang/String")) [] ({ frames := 4, cells := 2, slots := 8, locals := 90 } : Room) Z ELs [] n0 h0 #[(.ref z), (.ref x)] [] (fun v h => v = some (.ref x)) := by
  refine CW.walk (plainFor_of_name pn6) ho (L0 := #[.val (.ref z), .val (.ref x)]) (fun m => rfl) ?_
  intro pG e s m below meth cO T hlk hret hnm hSL A0
  have K0 : Keep h0 h0 [] := Keep.refl _ _
  refine f_aloadN A0 d5_0 (pc' := 1) rfl rfl rfl ?_
  refine f_ldcC A0 d5_1 (pc' := 3) rfl (by decide) (vs := [(.int (46 : Int32))]) (z := 1) ⟨by decide, by decide⟩ (by decide) (by decide) (wd hw 30 rfl) (strA hw) hEL (n := 4) (by decide) (by decide) (by decide) (by decide) fun a304 b304 kb304 vm304 T304 h304 A304 E304 C304 Li304 x304 fc304 fv304 av304 hs304 => ?_
  have G304 : Str Z h304 a304 b304 [(46 : Int32)] := strLit x304 fc304 fv304 av304 (Or.inl ⟨rfl, rfl, rfl, by decide⟩) (by decide) (by decide)
  have Q305 : Keep h0 h304 [] := K0.ext E304
  have c306 := (F.ext E304)
  have c308 := (F.exa.ext E304)
  refine f_callV A304 (a := x) d5_3 (pc' := 6) rfl (wd hw 31 rfl) (wd hw 32 rfl) (nfS A304 (wd hw 34 rfl)) (wd hw 34 rfl) (wd hw 33 rfl) (by decide) c308 pd20 [(.ref a304)] [] rfl rfl rfl 0 (Nat.le_of_eq rfl) (CN.pay (W := 0) A304 (m_con3 l Z a0 hw x t a304 b304 c0 c1 c2 zc O2 P5 1 h304 n0 A304.old c306 G304 r0 r1 r2 hdot) (wd hw 35 rfl) (wd hw 6 rfl) (by decide) (by decide)) (kc := 0) (ks := 0) (by decide) (by decide) all0 (fun _ => sf0) fun v307 T307 h307 L307 A307 K307 q307 => ?_
  obtain ⟨rfl, hh307⟩ := q307
  obtain rfl := hh307.symm
  show Wp pG e below _ T307 (mkF m 6 _ [(.int (1 : Int32))])
  refine f_ifN A307 d5_6 ((if0 _ _).trans (feq (by decide : ¬ (1 : Int32) = (0 : Int32))).1) (pc' := 9) rfl ?_
  refine f_aloadN A307 d5_9 (pc' := 10) rfl rfl rfl ?_
  refine f_goto A307 d5_10 (pc' := 36) (by decide) (by decide) ?_
  exact f_retRW A307 hEL hlk hret d5_36 rfl rfl (by decide) (by decide) Q305 rfl
set_option maxRecDepth 65536 in
set_option maxHeartbeats 40000000 in
theorem m_qn3 (l : Launch) (Z : State) (a0 : Array Value) (hw : ∀ d ∈ tables_1, d.before a0 Z = true) (z y x t : Addr) (es : List Int32) (c0 c1 c2 : Int32) (zc : Int32) (O2 : Sta Z Z.heap "java/lang/String" "COMPACT_STRINGS" "Z" (.int zc)) (P5 : ¬ zc = 0) (h0 : Heap) (n0 : Nat) (ho : Old Z n0 h0) (hEL : EW Z a0 ELs) (Fz : Str Z h0 z y es) (F : Str Z h0 x t [c0, c1, c2]) (hes : ∀ c ∈ es, ¬ c < 0 ∧ ¬ (255 : Int32) < c) (hle : es.length ≤ 3) (r0 : ¬ c0 < 0 ∧ ¬ (255 : Int32) < c0) (r1 : ¬ c1 < 0 ∧ ¬ (255 : Int32) < c1) (r2 : ¬ c2 < 0 ∧ ¬ (255 : Int32) < c2) (hdot : (if idxD [c0, c1, c2] 0 < 0 then (0 : Int32) else 1) = 0) :
    CW l (⟨"com/example/mapwright/mapwright/config/MapperReader", "qualified", "(Ljava/lang/String;Ljava/lang/String;)Ljava/lang/String;"⟩ : MethodName) prog_26_method_11_code 2 (some (.object "java/lang/String")) [] ({ frames := 7, cells := 9, slots := 150, locals := 190 } : Room) Z ELs [] n0 h0 #[(.ref z), (.ref x)] [] (fun v h => ∃ (a b : Addr), v = some (.ref a) ∧ h0.size ≤ a ∧ Str Z h a b (es ++ [(46 : Int32)] ++ [c0, c1, c2])) := by
  refine CW.walk (plainFor_of_name pn6) ho (L0 := #[.val (.ref z), .val (.ref x)]) (fun m => rfl) ?_
  intro pG e s m below meth cO T hlk hret hnm hSL A0
  have K0 : Keep h0 h0 [] := Keep.refl _ _
  refine f_aloadN A0 d5_0 (pc' := 1) rfl rfl rfl ?_
  refine f_ldcC A0 d5_1 (pc' := 3) rfl (by decide) (vs := [(.int (46 : Int32))]) (z := 1) ⟨by decide, by decide⟩ (by decide) (by decide) (wd hw 30 rfl) (strA hw) hEL (n := 4) (by decide) (by decide) (by decide) (by decide) fun a309 b309 kb309 vm309 T309 h309 A309 E309 C309 Li309 x309 fc309 fv309 av309 hs309 => ?_
  have G309 : Str Z h309 a309 b309 [(46 : Int32)] := strLit x309 fc309 fv309 av309 (Or.inl ⟨rfl, rfl, rfl, by decide⟩) (by decide) (by decide)
  have Q310 : Keep h0 h309 [] := K0.ext E309
  have c311 := (F.ext E309)
  have c313 := (F.exa.ext E309)
  refine f_callV A309 (a := x) d5_3 (pc' := 6) rfl (wd hw 31 rfl) (wd hw 32 rfl) (nfS A309 (wd hw 34 rfl)) (wd hw 34 rfl) (wd hw 33 rfl) (by decide) c313 pd20 [(.ref a309)] [] rfl rfl rfl 0 (Nat.le_of_eq rfl) (CN.pay (W := 0) A309 (m_con3 l Z a0 hw x t a309 b309 c0 c1 c2 zc O2 P5 0 h309 n0 A309.old c311 G309 r0 r1 r2 hdot) (wd hw 35 rfl) (wd hw 6 rfl) (by decide) (by decide)) (kc := 0) (ks := 0) (by decide) (by decide) all0 (fun _ => sf0) fun v312 T312 h312 L312 A312 K312 q312 => ?_
  obtain ⟨rfl, hh312⟩ := q312
  obtain rfl := hh312.symm
  show Wp pG e below _ T312 (mkF m 6 _ [(.int (0 : Int32))])
  refine f_ifY A312 d5_6 ((if0 _ _).trans (teq (by decide : (0 : Int32) = (0 : Int32))).1) (pc' := 13) (by decide) (by decide) ?_
  refine f_new A312 d5_13 (pc' := 16) rfl (wd hw 65 rfl) (wd hw 66 rfl) (wd hw 67 rfl) (by decide) (by decide) fun a314 T314 h314 g314 A314 E314 X314 D314 => ?_
  have z314 : n0 ≤ a314 := Nat.le_trans A312.sz (Nat.le_of_eq g314.symm)
  have y314 : h0.size ≤ a314 := Nat.le_trans Q310.1 (Nat.le_of_eq g314.symm)
  have Q315 : Keep h0 h314 [] := Q310.ext E314
  refine f_dup A314 d5_16 (pc' := 17) rfl rfl ?_
  refine f_callI A314 (a := a314) d5_17 (pc' := 20) rfl rfl (wd hw 68 rfl) (wd hw 69 rfl) (wd hw 70 rfl) (by decide) pd21 [] [(.ref a314)] rfl rfl rfl 1 (Nat.le_of_eq rfl) (CN.pay (W := 1) A314 (m_sbI l Z a0 hw a314 zc O2 P5 h314 n0 A314.old X314 (show Fld Z h314 a314 "java/lang/AbstractStringBuilder" "value" "[B" .null from D314 (Or.inl (wd hw 80 rfl)) (ty := (.array .byte)) (by decide)) (show Fld Z h314 a314 "java/lang/AbstractStringBuilder" "coder" "B" (.int (0 : Int32)) from D314 (Or.inl (wd hw 82 rfl)) (ty := .byte) (by decide)) (show Fld Z h314 a314 "java/lang/AbstractStringBuilder" "count" "I" (.int (0 : Int32)) from D314 (Or.inl (wd hw 99 rfl)) (ty := .int) (by decide)) z314) (wd hw 70 rfl) (wd hw 67 rfl) (by decide) (by decide)) (kc := 1) (ks := 16) (by decide) (by decide) (allS z314 all0) (fun _ => (sfS (Safe.exa A314.hZ.alike X314 (by decide) (by decide)) sf0)) fun v316 T316 h316 L316 A316 K316 q316 => ?_
  have Q317 : Keep h0 h316 [] := Q315.trans K316 (allS (Or.inr y314) all0)
  obtain ⟨rfl, v316, kb316, zv316, gv316, B316⟩ := q316
  show Wp pG e below _ T316 (mkF m 20 _ [(.ref a314)])
  refine f_aloadN A316 d5_20 (pc' := 21) rfl rfl rfl ?_
  have c318 := (((Fz.ext E309).ext E314).keep K316 (ninS (Nat.ne_of_lt (Nat.lt_of_lt_of_le (Nat.lt_of_lt_of_le Fz.lt E309.1) (Nat.le_of_eq g314.symm))) nin0) (ninS (Nat.ne_of_lt (Nat.lt_of_lt_of_le (Nat.lt_of_lt_of_le Fz.lt' E309.1) (Nat.le_of_eq g314.symm))) nin0))
  have s320 := Safe.keep K316 (sfS (Safe.exa A314.hZ.alike X314 (by decide) (by decide)) sf0) (A314.ch rfl).1 (Safe.new gv316)
  refine f_callV A316 (a := a314) d5_21 (pc' := 24) rfl (wd hw 83 rfl) (wd hw 84 rfl) (nfS A316 (wd hw 86 rfl)) (wd hw 86 rfl) (wd hw 85 rfl) (by decide) B316.1 pd22 [(.ref z)] [] rfl rfl rfl 0 (Nat.le_of_eq rfl) (CN.pay (W := 0) A316 (m_sbA l Z a0 hw a314 v316 kb316 16 [] z y es zc O2 P5 h316 n0 A316.old B316 c318 (fun c hc => (hes c hc).2) (by simp only [List.length_append, List.length_cons, List.length_nil]; omega) (by decide) z314 zv316 (Nat.ne_of_lt (Nat.lt_of_lt_of_le X314.lt gv316)) (Nat.ne_of_lt (Nat.lt_of_lt_of_le (Nat.lt_of_lt_of_le (Nat.lt_of_lt_of_le Fz.lt' E309.1) E314.1) gv316))) (wd hw 87 rfl) (wd hw 67 rfl) (by decide) (by decide)) (kc := 0) (ks := 0) (by decide) (by decide) (allS z314 (allS zv316 all0)) (fun _ => (sfS (Safe.exa A316.hZ.alike B316.1 (by decide) (by decide)) (sfS s320 sf0))) fun v319 T319 h319 L319 A319 K319 q319 => ?_
  have Q321 : Keep h0 h319 [] := Q317.trans K319 (allS (Or.inr y314) (allS (Or.inr (Nat.le_trans Q315.1 gv316)) all0))
  obtain ⟨rfl, B319⟩ := q319
  have B319 : SBd Z h319 a314 v316 kb316 16 es := B319
  show Wp pG e below _ T319 (mkF m 24 _ [(.ref a314)])
  refine f_ldcA A319 d5_24 (pc' := 26) rfl (wd hw 30 rfl) Li309 ?_
  have c323 := (((G309.ext E314).keep K316 (ninS (Nat.ne_of_lt (Nat.lt_of_lt_of_le x309.lt (Nat.le_of_eq g314.symm))) nin0) (ninS (Nat.ne_of_lt (Nat.lt_of_lt_of_le av309.lt (Nat.le_of_eq g314.symm))) nin0)).keep K319 (ninS (Nat.ne_of_lt (Nat.lt_of_lt_of_le x309.lt (Nat.le_of_eq g314.symm))) (ninS (Nat.ne_of_lt (Nat.lt_of_lt_of_le (Nat.lt_of_lt_of_le x309.lt E314.1) gv316)) nin0)) (ninS (Nat.ne_of_lt (Nat.lt_of_lt_of_le av309.lt (Nat.le_of_eq g314.symm))) (ninS (Nat.ne_of_lt (Nat.lt_of_lt_of_le (Nat.lt_of_lt_of_le av309.lt E314.1) gv316)) nin0)))
  have c325 := (Safe.keep K319 (sfS (Safe.exa A316.hZ.alike B316.1 (by decide) (by decide)) (sfS s320 sf0)) (A316.ch rfl).1 s320)
  refine f_callV A319 (a := a314) d5_26 (pc' := 29) rfl (wd hw 83 rfl) (wd hw 84 rfl) (nfS A319 (wd hw 86 rfl)) (wd hw 86 rfl) (wd hw 85 rfl) (by decide) B319.1 pd22 [(.ref a309)] [] rfl rfl rfl 0 (Nat.le_of_eq rfl) (CN.pay (W := 0) A319 (m_sbA l Z a0 hw a314 v316 kb316 16 es a309 b309 [(46 : Int32)] zc O2 P5 h319 n0 A319.old B319 c323 (by decide) (by simp only [List.length_append, List.length_cons, List.length_nil]; omega) (by decide) z314 zv316 (Nat.ne_of_lt (Nat.lt_of_lt_of_le X314.lt gv316)) (Nat.ne_of_lt (Nat.lt_of_lt_of_le (Nat.lt_of_lt_of_le av309.lt E314.1) gv316))) (wd hw 87 rfl) (wd hw 67 rfl) (by decide) (by decide)) (kc := 0) (ks := 0) (by decide) (by decide) (allS z314 (allS zv316 all0)) (fun _ => (sfS (Safe.exa A319.hZ.alike B319.1 (by decide) (by decide)) (sfS c325 sf0))) fun v324 T324 h324 L324 A324 K324 q324 => ?_
  have Q326 : Keep h0 h324 [] := Q321.trans K324 (allS (Or.inr y314) (allS (Or.inr (Nat.le_trans Q315.1 gv316)) all0))
  obtain ⟨rfl, B324⟩ := q324
  have B324 : SBd Z h324 a314 v316 kb316 16 (es ++ [(46 : Int32)]) := B324
  show Wp pG e below _ T324 (mkF m 29 _ [(.ref a314)])
  refine f_aloadN A324 d5_29 (pc' := 30) rfl rfl rfl ?_
  have c327 := ((((c311.ext E314).keep K316 (ninS (Nat.ne_of_lt (Nat.lt_of_lt_of_le (Nat.lt_of_lt_of_le F.lt E309.1) (Nat.le_of_eq g314.symm))) nin0) (ninS (Nat.ne_of_lt (Nat.lt_of_lt_of_le (Nat.lt_of_lt_of_le F.lt' E309.1) (Nat.le_of_eq g314.symm))) nin0)).keep K319 (ninS (Nat.ne_of_lt (Nat.lt_of_lt_of_le (Nat.lt_of_lt_of_le F.lt E309.1) (Nat.le_of_eq g314.symm))) (ninS (Nat.ne_of_lt (Nat.lt_of_lt_of_le (Nat.lt_of_lt_of_le (Nat.lt_of_lt_of_le F.lt E309.1) E314.1) gv316)) nin0)) (ninS (Nat.ne_of_lt (Nat.lt_of_lt_of_le (Nat.lt_of_lt_of_le F.lt' E309.1) (Nat.le_of_eq g314.symm))) (ninS (Nat.ne_of_lt (Nat.lt_of_lt_of_le (Nat.lt_of_lt_of_le (Nat.lt_of_lt_of_le F.lt' E309.1) E314.1) gv316)) nin0))).keep K324 (ninS (Nat.ne_of_lt (Nat.lt_of_lt_of_le (Nat.lt_of_lt_of_le F.lt E309.1) (Nat.le_of_eq g314.symm))) (ninS (Nat.ne_of_lt (Nat.lt_of_lt_of_le (Nat.lt_of_lt_of_le (Nat.lt_of_lt_of_le F.lt E309.1) E314.1) gv316)) nin0)) (ninS (Nat.ne_of_lt (Nat.lt_of_lt_of_le (Nat.lt_of_lt_of_le F.lt' E309.1) (Nat.le_of_eq g314.symm))) (ninS (Nat.ne_of_lt (Nat.lt_of_lt_of_le (Nat.lt_of_lt_of_le (Nat.lt_of_lt_of_le F.lt' E309.1) E314.1) gv316)) nin0)))
  have c329 := (Safe.keep K324 (sfS (Safe.exa A319.hZ.alike B319.1 (by decide) (by decide)) (sfS c325 sf0)) (A319.ch rfl).1 c325)
  refine f_callV A324 (a := a314) d5_30 (pc' := 33) rfl (wd hw 83 rfl) (wd hw 84 rfl) (nfS A324 (wd hw 86 rfl)) (wd hw 86 rfl) (wd hw 85 rfl) (by decide) B324.1 pd22 [(.ref x)] [] rfl rfl rfl 0 (Nat.le_of_eq rfl) (CN.pay (W := 0) A324 (m_sbA l Z a0 hw a314 v316 kb316 16 (es ++ [(46 : Int32)]) x t [c0, c1, c2] zc O2 P5 h324 n0 A324.old B324 c327 (lc r0.2 (lc r1.2 (lc r2.2 ln))) (by simp only [List.length_append, List.length_cons, List.length_nil]; omega) (by decide) z314 zv316 (Nat.ne_of_lt (Nat.lt_of_lt_of_le X314.lt gv316)) (Nat.ne_of_lt (Nat.lt_of_lt_of_le (Nat.lt_of_lt_of_le (Nat.lt_of_lt_of_le F.lt' E309.1) E314.1) gv316))) (wd hw 87 rfl) (wd hw 67 rfl) (by decide) (by decide)) (kc := 0) (ks := 0) (by decide) (by decide) (allS z314 (allS zv316 all0)) (fun _ => (sfS (Safe.exa A324.hZ.alike B324.1 (by decide) (by decide)) (sfS c329 sf0))) fun v328 T328 h328 L328 A328 K328 q328 => ?_
  have Q330 : Keep h0 h328 [] := Q326.trans K328 (allS (Or.inr y314) (allS (Or.inr (Nat.le_trans Q315.1 gv316)) all0))
  obtain ⟨rfl, B328⟩ := q328
  have B328 : SBd Z h328 a314 v316 kb316 16 ((es ++ [(46 : Int32)]) ++ [c0, c1, c2]) := B328
  show Wp pG e below _ T328 (mkF m 33 _ [(.ref a314)])
  refine f_callV A328 (a := a314) d5_33 (pc' := 36) rfl (wd hw 125 rfl) (wd hw 126 rfl) (nfS A328 (wd hw 128 rfl)) (wd hw 128 rfl) (wd hw 127 rfl) (by decide) B328.1 pd18 [] [] rfl rfl rfl 0 (Nat.le_of_eq rfl) (CN.pay (W := 0) A328 (m_sbS l Z a0 hw a314 v316 kb316 16 ((es ++ [(46 : Int32)]) ++ [c0, c1, c2]) zc O2 P5 h328 n0 A328.old B328 (by simp only [List.length_append, List.length_cons, List.length_nil]; omega) (by decide) (by simp only [List.length_append, List.length_cons, List.length_nil]; omega) (la (la hes (by decide)) (lc r0 (lc r1 (lc r2 ln))))) (wd hw 129 rfl) (wd hw 67 rfl) (by decide) (by decide)) (kc := 2) (ks := 70) (by decide) (by decide) all0 (fun _ => sf0) fun v331 T331 h331 L331 A331 K331 q331 => ?_
  have Q332 : Keep h0 h331 [] := Q330.trans K331 all0
  obtain ⟨x331, t331, rfl, zx331, xg331, tg331, G331⟩ := q331
  show Wp pG e below _ T331 (mkF m 36 _ [(.ref x331)])
  exact f_retRW A331 hEL hlk hret d5_36 rfl rfl (by decide) (by decide) Q332 ⟨x331, t331, rfl, (Nat.le_trans Q330.1 xg331), G331⟩
theorem d32_0 : decode method_5_code 0 = .ok (.iload_n 1, 1) := by decide +kernel
theorem d32_1 : decode method_5_code 1 = .ok (.iload_n 2, 1) := by decide +kernel
theorem d32_2 : decode method_5_code 2 = .ok (.if_icmp .lt 5, 3) := by decide +kernel
theorem d32_5 : decode method_5_code 5 = .ok (.iconst 1, 1) := by decide +kernel
theorem d32_6 : decode method_5_code 6 = .ok (.ireturn, 1) := by decide +kernel
set_option maxRecDepth 65536 in
set_option maxHeartbeats 40000000 in
theorem m_okO (l : Launch) (Z : State) (a0 : Array Value) (hw : ∀ d ∈ tables_1, d.before a0 Z = true) (x : Addr) (i len mq nb rb : Int32) (h0 : Heap) (n0 : Nat) (ho : Old Z n0 h0) (h1 : ¬ i < len) :
    CN l (⟨"com/example/mapwright/mapwright/config/MapperReaderQualifiedPinLaw", "ok", "(Ljava/lang/String;IIIII)Z"⟩ : MethodName) method_5_code 7 (some .boolean) [] ({ frames := 0, cells := 0, slots := 0, locals := 0 } : Room) Z n0 h0 #[(.ref x), (.int i), (.int len), (.int mq), (.int nb), (.int rb)] [] (fun v h => v = some (.int 1) ∧ h = h0) := by
  refine CN.walk (plainFor_of_name pn4) ho (L0 := #[.val (.ref x), .val (.int i), .val (.int len), .val (.int mq), .val (.int nb), .val (.int rb), .unset]) (fun m => rfl) ?_
  intro pG e s m below meth cO T hlk hret hnm A0
  have K0 : Keep h0 h0 [] := Keep.refl _ _
  refine f_iloadN A0 d32_0 (pc' := 1) rfl rfl ?_
  refine f_iloadN A0 d32_1 (pc' := 2) rfl rfl ?_
  refine f_icN A0 d32_2 (flt h1).1 (pc' := 5) rfl ?_
  refine f_iconst A0 d32_5 (pc' := 6) rfl 1 rfl ?_
  exact f_retBN A0 hlk hret d32_6 (by decide) (1 : Int32) (by decide) (by decide) (by decide) K0 ⟨rfl, rfl⟩
theorem d32_7 : decode method_5_code 7 = .ok (.iload_n 1, 1) := by decide +kernel
theorem d32_8 : decode method_5_code 8 = .ok (.iload_n 3, 1) := by decide +kernel
theorem d32_9 : decode method_5_code 9 = .ok (.if_icmp .ge 14, 3) := by decide +kernel
theorem d32_12 : decode method_5_code 12 = .ok (.iload 4, 2) := by decide +kernel
theorem d32_14 : decode method_5_code 14 = .ok (.iload_n 1, 1) := by decide +kernel
theorem d32_15 : decode method_5_code 15 = .ok (.invokestatic 19, 3) := by decide +kernel
theorem d32_18 : decode method_5_code 18 = .ok (.istore 6, 2) := by decide +kernel
theorem d32_20 : decode method_5_code 20 = .ok (.goto 27, 3) := by decide +kernel
theorem d32_47 : decode method_5_code 47 = .ok (.aload_n 0, 1) := by decide +kernel
theorem d32_48 : decode method_5_code 48 = .ok (.iload_n 1, 1) := by decide +kernel
theorem d32_49 : decode method_5_code 49 = .ok (.invokevirtual 40, 3) := by decide +kernel
theorem pd24 : parseMethodDescriptor "(I)C" = some ⟨[.int], some .char⟩ := by decide +kernel
theorem d32_52 : decode method_5_code 52 = .ok (.iload 6, 2) := by decide +kernel
theorem d32_54 : decode method_5_code 54 = .ok (.if_icmp .ne 7, 3) := by decide +kernel
theorem d32_57 : decode method_5_code 57 = .ok (.iconst 1, 1) := by decide +kernel
theorem d32_58 : decode method_5_code 58 = .ok (.goto 4, 3) := by decide +kernel
theorem d32_62 : decode method_5_code 62 = .ok (.ireturn, 1) := by decide +kernel
set_option maxRecDepth 65536 in
set_option maxHeartbeats 40000000 in
theorem m_okN (l : Launch) (Z : State) (a0 : Array Value) (hw : ∀ d ∈ tables_1, d.before a0 Z = true) (x : Addr) (i len mq nb rb : Int32) (t : Addr) (cs : List Int32) (k : Nat) (c : Int32) (zc : Int32) (O2 : Sta Z Z.heap "java/lang/String" "COMPACT_STRINGS" "Z" (.int zc)) (P5 : ¬ zc = 0) (fm : Value) (O4 : Sta Z Z.heap "jdk/internal/util/Preconditions" "SIOOBE_FORMATTER" "Ljava/util/function/BiFunction;" fm) (rG3 : fm.isRef = true) (h0 : Heap) (n0 : Nat) (ho : Old Z n0 h0) (F : Str Z h0 x t cs) (lat : ∀ c ∈ cs, ¬ (255 : Int32) < c) (hk : k < cs.length) (hi : i = Int32.ofNat k) (hcs : cs.getD k 0 = c) (h1 : i < len) (h2 : i < mq) (hc : chV nb i = c) :
    CN l (⟨"com/example/mapwright/mapwright/config/MapperReaderQualifiedPinLaw", "ok", "(Ljava/lang/String;IIIII)Z"⟩ : MethodName) method_5_code 7 (some .boolean) [] ({ frames := 5, cells := 0, slots := 0, locals := 80 } : Room) Z n0 h0 #[(.ref x), (.int i), (.int len), (.int mq), (.int nb), (.int rb)] [] (fun v h => v = some (.int 1) ∧ h = h0) := by
  refine CN.walk (plainFor_of_name pn4) ho (L0 := #[.val (.ref x), .val (.int i), .val (.int len), .val (.int mq), .val (.int nb), .val (.int rb), .unset]) (fun m => rfl) ?_
  intro pG e s m below meth cO T hlk hret hnm A0
  have K0 : Keep h0 h0 [] := Keep.refl _ _
  refine f_iloadN A0 d32_0 (pc' := 1) rfl rfl ?_
  refine f_iloadN A0 d32_1 (pc' := 2) rfl rfl ?_
  refine f_icY A0 d32_2 (tlt h1).1 (pc' := 7) (by decide) (by decide) ?_
  refine f_iloadN A0 d32_7 (pc' := 8) rfl rfl ?_
  refine f_iloadN A0 d32_8 (pc' := 9) rfl rfl ?_
  refine f_icN A0 d32_9 (tlt h2).2.1 (pc' := 12) rfl ?_
  refine f_iload A0 d32_12 (pc' := 14) rfl rfl ?_
  refine f_iloadN A0 d32_14 (pc' := 15) rfl rfl ?_
  refine f_callS A0 d32_15 (pc' := 18) rfl (wd hw 190 rfl) (wd hw 191 rfl) (wd hw 2 rfl) (wd hw 192 rfl) (by decide) pd16 [(.int nb), (.int i)] [] rfl rfl rfl 0 (Nat.le_of_eq rfl) (CN.pay (W := 0) A0 (m_ch l Z a0 hw nb i c h0 n0 A0.old hc) (wd hw 192 rfl) (wd hw 2 rfl) (by decide) (by decide)) (kc := 0) (ks := 0) (by decide) (by decide) all0 (fun q => nomatch q) fun v333 T333 h333 L333 A333 K333 q333 => ?_
  obtain ⟨rfl, hh333⟩ := q333
  obtain rfl := hh333.symm
  show Wp pG e below _ T333 (mkF m 18 _ [(.int c)])
  refine f_istore A333 d32_18 (pc' := 20) rfl (L' := #[.val (.ref x), .val (.int i), .val (.int len), .val (.int mq), .val (.int nb), .val (.int rb), .val (.int c)]) rfl ?_
  refine f_goto A333 d32_20 (pc' := 47) (by decide) (by decide) ?_
  refine f_aloadN A333 d32_47 (pc' := 48) rfl rfl rfl ?_
  refine f_iloadN A333 d32_48 (pc' := 49) rfl rfl ?_
  refine f_callV A333 (a := x) d32_49 (pc' := 52) rfl (wd hw 174 rfl) (wd hw 175 rfl) (nfS A333 (wd hw 177 rfl)) (wd hw 177 rfl) (wd hw 176 rfl) (by decide) F.exa pd24 [(.int i)] [] rfl rfl rfl 0 (Nat.le_of_eq rfl) (payCh (W := 0) A333 hw (wd hw 5 rfl) F lat O2 P5 O4 rG3 k hk hi (by decide) (by decide)) (kc := 0) (ks := 0) (by decide) (by decide) all0 (fun q => nomatch q) fun v334 T334 h334 L334 A334 K334 q334 => ?_
  obtain ⟨e334, hh334⟩ := q334
  obtain rfl := hh334.symm
  rw [hcs] at e334
  subst e334
  show Wp pG e below _ T334 (mkF m 52 _ [(.int c)])
  refine f_iload A334 d32_52 (pc' := 54) rfl rfl ?_
  refine f_icN A334 d32_54 (teq (rfl : c = c)).2 (pc' := 57) rfl ?_
  refine f_iconst A334 d32_57 (pc' := 58) rfl 1 rfl ?_
  refine f_goto A334 d32_58 (pc' := 62) (by decide) (by decide) ?_
  exact f_retBN A334 hlk hret d32_62 (by decide) (1 : Int32) (by decide) (by decide) (by decide) K0 ⟨rfl, rfl⟩
theorem d32_23 : decode method_5_code 23 = .ok (.iload_n 1, 1) := by decide +kernel
theorem d32_24 : decode method_5_code 24 = .ok (.iload_n 3, 1) := by decide +kernel
theorem d32_25 : decode method_5_code 25 = .ok (.if_icmp .ne 10, 3) := by decide +kernel
theorem d32_28 : decode method_5_code 28 = .ok (.bipush 46, 2) := by decide +kernel
theorem d32_30 : decode method_5_code 30 = .ok (.istore 6, 2) := by decide +kernel
theorem d32_32 : decode method_5_code 32 = .ok (.goto 15, 3) := by decide +kernel
set_option maxRecDepth 65536 in
set_option maxHeartbeats 40000000 in
theorem m_okD (l : Launch) (Z : State) (a0 : Array Value) (hw : ∀ d ∈ tables_1, d.before a0 Z = true) (x : Addr) (i len mq nb rb : Int32) (t : Addr) (cs : List Int32) (k : Nat) (c : Int32) (zc : Int32) (O2 : Sta Z Z.heap "java/lang/String" "COMPACT_STRINGS" "Z" (.int zc)) (P5 : ¬ zc = 0) (fm : Value) (O4 : Sta Z Z.heap "jdk/internal/util/Preconditions" "SIOOBE_FORMATTER" "Ljava/util/function/BiFunction;" fm) (rG3 : fm.isRef = true) (h0 : Heap) (n0 : Nat) (ho : Old Z n0 h0) (F : Str Z h0 x t cs) (lat : ∀ c ∈ cs, ¬ (255 : Int32) < c) (hk : k < cs.length) (hi : i = Int32.ofNat k) (hcs : cs.getD k 0 = c) (h1 : i < len) (h2 : i = mq) (h3 : ¬ i < mq) (hc : (46 : Int32) = c) :
    CN l (⟨"com/example/mapwright/mapwright/config/MapperReaderQualifiedPinLaw", "ok", "(Ljava/lang/String;IIIII)Z"⟩ : MethodName) method_5_code 7 (some .boolean) [] ({ frames := 5, cells := 0, slots := 0, locals := 80 } : Room) Z n0 h0 #[(.ref x), (.int i), (.int len), (.int mq), (.int nb), (.int rb)] [] (fun v h => v = some (.int 1) ∧ h = h0) := by
  refine CN.walk (plainFor_of_name pn4) ho (L0 := #[.val (.ref x), .val (.int i), .val (.int len), .val (.int mq), .val (.int nb), .val (.int rb), .unset]) (fun m => rfl) ?_
  intro pG e s m below meth cO T hlk hret hnm A0
  have K0 : Keep h0 h0 [] := Keep.refl _ _
  refine f_iloadN A0 d32_0 (pc' := 1) rfl rfl ?_
  refine f_iloadN A0 d32_1 (pc' := 2) rfl rfl ?_
  refine f_icY A0 d32_2 (tlt h1).1 (pc' := 7) (by decide) (by decide) ?_
  refine f_iloadN A0 d32_7 (pc' := 8) rfl rfl ?_
  refine f_iloadN A0 d32_8 (pc' := 9) rfl rfl ?_
  refine f_icY A0 d32_9 (flt h3).2.1 (pc' := 23) (by decide) (by decide) ?_
  refine f_iloadN A0 d32_23 (pc' := 24) rfl rfl ?_
  refine f_iloadN A0 d32_24 (pc' := 25) rfl rfl ?_
  refine f_icN A0 d32_25 (teq h2).2 (pc' := 28) rfl ?_
  refine f_bipush A0 d32_28 (pc' := 30) rfl 46 rfl ?_
  refine f_istore A0 d32_30 (pc' := 32) rfl (L' := #[.val (.ref x), .val (.int i), .val (.int len), .val (.int mq), .val (.int nb), .val (.int rb), .val (.int (46 : Int32))]) rfl ?_
  refine f_goto A0 d32_32 (pc' := 47) (by decide) (by decide) ?_
  refine f_aloadN A0 d32_47 (pc' := 48) rfl rfl rfl ?_
  refine f_iloadN A0 d32_48 (pc' := 49) rfl rfl ?_
  refine f_callV A0 (a := x) d32_49 (pc' := 52) rfl (wd hw 174 rfl) (wd hw 175 rfl) (nfS A0 (wd hw 177 rfl)) (wd hw 177 rfl) (wd hw 176 rfl) (by decide) F.exa pd24 [(.int i)] [] rfl rfl rfl 0 (Nat.le_of_eq rfl) (payCh (W := 0) A0 hw (wd hw 5 rfl) F lat O2 P5 O4 rG3 k hk hi (by decide) (by decide)) (kc := 0) (ks := 0) (by decide) (by decide) all0 (fun q => nomatch q) fun v335 T335 h335 L335 A335 K335 q335 => ?_
  obtain ⟨e335, hh335⟩ := q335
  obtain rfl := hh335.symm
  rw [hcs] at e335
  subst e335
  show Wp pG e below _ T335 (mkF m 52 _ [(.int c)])
  refine f_iload A335 d32_52 (pc' := 54) rfl rfl ?_
  refine f_icN A335 d32_54 (teq hc.symm).2 (pc' := 57) rfl ?_
  refine f_iconst A335 d32_57 (pc' := 58) rfl 1 rfl ?_
  refine f_goto A335 d32_58 (pc' := 62) (by decide) (by decide) ?_
  exact f_retBN A335 hlk hret d32_62 (by decide) (1 : Int32) (by decide) (by decide) (by decide) K0 ⟨rfl, rfl⟩
theorem d32_35 : decode method_5_code 35 = .ok (.iload 5, 2) := by decide +kernel
theorem d32_37 : decode method_5_code 37 = .ok (.iload_n 1, 1) := by decide +kernel
theorem d32_38 : decode method_5_code 38 = .ok (.iload_n 3, 1) := by decide +kernel
theorem d32_39 : decode method_5_code 39 = .ok (.isub, 1) := by decide +kernel
theorem d32_40 : decode method_5_code 40 = .ok (.iconst 1, 1) := by decide +kernel
theorem d32_41 : decode method_5_code 41 = .ok (.isub, 1) := by decide +kernel
theorem d32_42 : decode method_5_code 42 = .ok (.invokestatic 19, 3) := by decide +kernel
theorem d32_45 : decode method_5_code 45 = .ok (.istore 6, 2) := by decide +kernel
set_option maxRecDepth 65536 in
set_option maxHeartbeats 40000000 in
theorem m_okR (l : Launch) (Z : State) (a0 : Array Value) (hw : ∀ d ∈ tables_1, d.before a0 Z = true) (x : Addr) (i len mq nb rb : Int32) (t : Addr) (cs : List Int32) (k : Nat) (c : Int32) (zc : Int32) (O2 : Sta Z Z.heap "java/lang/String" "COMPACT_STRINGS" "Z" (.int zc)) (P5 : ¬ zc = 0) (fm : Value) (O4 : Sta Z Z.heap "jdk/internal/util/Preconditions" "SIOOBE_FORMATTER" "Ljava/util/function/BiFunction;" fm) (rG3 : fm.isRef = true) (h0 : Heap) (n0 : Nat) (ho : Old Z n0 h0) (F : Str Z h0 x t cs) (lat : ∀ c ∈ cs, ¬ (255 : Int32) < c) (hk : k < cs.length) (hi : i = Int32.ofNat k) (hcs : cs.getD k 0 = c) (h1 : i < len) (h2 : ¬ i < mq) (h3 : ¬ i = mq) (hc : chV rb (i - mq - 1) = c) :
    CN l (⟨"com/example/mapwright/mapwright/config/MapperReaderQualifiedPinLaw", "ok", "(Ljava/lang/String;IIIII)Z"⟩ : MethodName) method_5_code 7 (some .boolean) [] ({ frames := 5, cells := 0, slots := 0, locals := 80 } : Room) Z n0 h0 #[(.ref x), (.int i), (.int len), (.int mq), (.int nb), (.int rb)] [] (fun v h => v = some (.int 1) ∧ h = h0) := by
  refine CN.walk (plainFor_of_name pn4) ho (L0 := #[.val (.ref x), .val (.int i), .val (.int len), .val (.int mq), .val (.int nb), .val (.int rb), .unset]) (fun m => rfl) ?_
  intro pG e s m below meth cO T hlk hret hnm A0
  have K0 : Keep h0 h0 [] := Keep.refl _ _
  refine f_iloadN A0 d32_0 (pc' := 1) rfl rfl ?_
  refine f_iloadN A0 d32_1 (pc' := 2) rfl rfl ?_
  refine f_icY A0 d32_2 (tlt h1).1 (pc' := 7) (by decide) (by decide) ?_
  refine f_iloadN A0 d32_7 (pc' := 8) rfl rfl ?_
  refine f_iloadN A0 d32_8 (pc' := 9) rfl rfl ?_
  refine f_icY A0 d32_9 (flt h2).2.1 (pc' := 23) (by decide) (by decide) ?_
  refine f_iloadN A0 d32_23 (pc' := 24) rfl rfl ?_
  refine f_iloadN A0 d32_24 (pc' := 25) rfl rfl ?_
  refine f_icY A0 d32_25 (feq h3).2 (pc' := 35) (by decide) (by decide) ?_
  refine f_iload A0 d32_35 (pc' := 37) rfl rfl ?_
  refine f_iloadN A0 d32_37 (pc' := 38) rfl rfl ?_
  refine f_iloadN A0 d32_38 (pc' := 39) rfl rfl ?_
  refine f_isub A0 d32_39 (pc' := 40) rfl (i - mq) rfl ?_
  refine f_iconst A0 d32_40 (pc' := 41) rfl 1 rfl ?_
  refine f_isub A0 d32_41 (pc' := 42) rfl ((i - mq) - (1 : Int32)) rfl ?_
  refine f_callS A0 d32_42 (pc' := 45) rfl (wd hw 190 rfl) (wd hw 191 rfl) (wd hw 2 rfl) (wd hw 192 rfl) (by decide) pd16 [(.int rb), (.int ((i - mq) - (1 : Int32)))] [] rfl rfl rfl 0 (Nat.le_of_eq rfl) (CN.pay (W := 0) A0 (m_ch l Z a0 hw rb ((i - mq) - (1 : Int32)) c h0 n0 A0.old hc) (wd hw 192 rfl) (wd hw 2 rfl) (by decide) (by decide)) (kc := 0) (ks := 0) (by decide) (by decide) all0 (fun q => nomatch q) fun v336 T336 h336 L336 A336 K336 q336 => ?_
  obtain ⟨rfl, hh336⟩ := q336
  obtain rfl := hh336.symm
  show Wp pG e below _ T336 (mkF m 45 _ [(.int c)])
  refine f_istore A336 d32_45 (pc' := 47) rfl (L' := #[.val (.ref x), .val (.int i), .val (.int len), .val (.int mq), .val (.int nb), .val (.int rb), .val (.int c)]) rfl ?_
  refine f_aloadN A336 d32_47 (pc' := 48) rfl rfl rfl ?_
  refine f_iloadN A336 d32_48 (pc' := 49) rfl rfl ?_
  refine f_callV A336 (a := x) d32_49 (pc' := 52) rfl (wd hw 174 rfl) (wd hw 175 rfl) (nfS A336 (wd hw 177 rfl)) (wd hw 177 rfl) (wd hw 176 rfl) (by decide) F.exa pd24 [(.int i)] [] rfl rfl rfl 0 (Nat.le_of_eq rfl) (payCh (W := 0) A336 hw (wd hw 5 rfl) F lat O2 P5 O4 rG3 k hk hi (by decide) (by decide)) (kc := 0) (ks := 0) (by decide) (by decide) all0 (fun q => nomatch q) fun v337 T337 h337 L337 A337 K337 q337 => ?_
  obtain ⟨e337, hh337⟩ := q337
  obtain rfl := hh337.symm
  rw [hcs] at e337
  subst e337
  show Wp pG e below _ T337 (mkF m 52 _ [(.int c)])
  refine f_iload A337 d32_52 (pc' := 54) rfl rfl ?_
  refine f_icN A337 d32_54 (teq (rfl : c = c)).2 (pc' := 57) rfl ?_
  refine f_iconst A337 d32_57 (pc' := 58) rfl 1 rfl ?_
  refine f_goto A337 d32_58 (pc' := 62) (by decide) (by decide) ?_
  exact f_retBN A337 hlk hret d32_62 (by decide) (1 : Int32) (by decide) (by decide) (by decide) K0 ⟨rfl, rfl⟩
theorem d42_0 : decode jdk_42_method_66_code 0 = .ok (.aload_n 0, 1) := by decide +kernel
theorem d42_1 : decode jdk_42_method_66_code 1 = .ok (.aload_n 1, 1) := by decide +kernel
theorem d42_2 : decode jdk_42_method_66_code 2 = .ok (.if_acmp .ne 5, 3) := by decide +kernel
theorem d42_5 : decode jdk_42_method_66_code 5 = .ok (.iconst 1, 1) := by decide +kernel
theorem d42_6 : decode jdk_42_method_66_code 6 = .ok (.ireturn, 1) := by decide +kernel
set_option maxRecDepth 65536 in
set_option maxHeartbeats 40000000 in
theorem m_eqself (l : Launch) (Z : State) (a0 : Array Value) (hw : ∀ d ∈ tables_1, d.before a0 Z = true) (a : Addr) (h0 : Heap) (n0 : Nat) (ho : Old Z n0 h0)  :
    CN l (⟨"java/lang/String", "equals", "(Ljava/lang/Object;)Z"⟩ : MethodName) jdk_42_method_66_code 3 (some .boolean) [] ({ frames := 0, cells := 0, slots := 0, locals := 0 } : Room) Z n0 h0 #[(.ref a), (.ref a)] [] (fun v h => v = some (.int 1) ∧ h = h0) := by
  refine CN.walk (plainFor_of_name pn0) ho (L0 := #[.val (.ref a), .val (.ref a), .unset]) (fun m => rfl) ?_
  intro pG e s m below meth cO T hlk hret hnm A0
  have K0 : Keep h0 h0 [] := Keep.refl _ _
  refine f_aloadN A0 d42_0 (pc' := 1) rfl rfl rfl ?_
  refine f_aloadN A0 d42_1 (pc' := 2) rfl rfl rfl ?_
  refine f_acmp A0 rfl rfl d42_2 true (decide_eq_true rfl) (by decide) (pc' := 5) (by decide) ?_
  refine f_iconst A0 d42_5 (pc' := 6) rfl 1 rfl ?_
  exact f_retBN A0 hlk hret d42_6 (by decide) (1 : Int32) (by decide) (by decide) (by decide) K0 ⟨rfl, rfl⟩
theorem lt4 {k : Int32} (q : 0 ≤ k.toInt ∧ k.toInt ≤ 3) : k = 0 ∨ k = 1 ∨ k = 2 ∨ k = 3 := by
  have : k.toInt = 0 ∨ k.toInt = 1 ∨ k.toInt = 2 ∨ k.toInt = 3 := by omega
  rcases this with z | z | z | z
  · exact Or.inl (Int32.toInt_inj.mp z)
  · exact Or.inr (Or.inl (Int32.toInt_inj.mp z))
  · exact Or.inr (Or.inr (Or.inl (Int32.toInt_inj.mp z)))
  · exact Or.inr (Or.inr (Or.inr (Int32.toInt_inj.mp z)))
theorem pd25 : parseMethodDescriptor "(II)Ljava/lang/String;" = some ⟨[.int, .int], some (.object "java/lang/String")⟩ := by decide +kernel
theorem pd26 : parseMethodDescriptor "(Ljava/lang/String;Ljava/lang/String;)Ljava/lang/String;" = some ⟨[(.object "java/lang/String"), (.object "java/lang/String")], some (.object "java/lang/String")⟩ := by decide +kernel
theorem pd27 : parseMethodDescriptor "(Ljava/lang/String;IIIII)Z" = some ⟨[(.object "java/lang/String"), .int, .int, .int, .int, .int], some .boolean⟩ := by decide +kernel
theorem pd28 : parseMethodDescriptor "(Ljava/lang/Object;)Z" = some ⟨[(.object "java/lang/Object")], some .boolean⟩ := by decide +kernel
set_option maxRecDepth 65536 in
set_option maxHeartbeats 40000000 in
theorem m_law (l : Launch) (Z : State) (a0 : Array Value) (hw : ∀ d ∈ tables_1, d.before a0 Z = true) (ws : List Jvm.Cond) (lens nb rb : Int32) (zc : Int32) (O2 : Sta Z Z.heap "java/lang/String" "COMPACT_STRINGS" "Z" (.int zc)) (P5 : ¬ zc = 0) (fm : Value) (O4 : Sta Z Z.heap "jdk/internal/util/Preconditions" "SIOOBE_FORMATTER" "Ljava/util/function/BiFunction;" fm) (rG3 : fm.isRef = true) (h0 : Heap) (n0 : Nat) (ho : Old Z n0 h0) (hEL : EW Z a0 ELs)  :
    CW l x code maxLocals ret ws room_1 Z ELs [] n0 h0 #[(.int lens), (.int nb), (.int rb)] [] (fun v h => v = some (.int 1)) := by
  refine CW.walk (plainFor_of_name pn4) ho (L0 := #[.val (.int lens), .val (.int nb), .val (.int rb), .unset, .unset, .unset, .unset, .unset, .unset, .unset]) (fun m => rfl) ?_
  intro pG e s m below meth cO T hlk hret hnm hSL A0
  have K0 : Keep h0 h0 [] := Keep.refl _ _
  obtain ⟨m0, hm0⟩ : ∃ k, lens &&& 3 = k := ⟨_, rfl⟩
  have hm4 := lt4 (hm0 ▸ c_and lens 3 (by decide))
  obtain ⟨n1, hn1⟩ : ∃ k, ((lens.toUInt32 >>> ((2 : Int32) &&& 31).toUInt32).toInt32) &&& 3 = k := ⟨_, rfl⟩
  have hn4 := lt4 (hn1 ▸ c_and _ 3 (by decide))
  obtain ⟨e0, he0⟩ : ∃ z, chV nb 0 = z := ⟨_, rfl⟩
  have s0 := lat_of (he0 ▸ ch_rng nb 0)
  obtain ⟨e1, he1⟩ : ∃ z, chV nb 1 = z := ⟨_, rfl⟩
  have s1 := lat_of (he1 ▸ ch_rng nb 1)
  obtain ⟨e2, he2⟩ : ∃ z, chV nb 2 = z := ⟨_, rfl⟩
  have s2 := lat_of (he2 ▸ ch_rng nb 2)
  obtain ⟨c0, hc0⟩ : ∃ z, chV rb 0 = z := ⟨_, rfl⟩
  have r0 := lat_of (hc0 ▸ ch_rng rb 0)
  obtain ⟨c1, hc1⟩ : ∃ z, chV rb 1 = z := ⟨_, rfl⟩
  have r1 := lat_of (hc1 ▸ ch_rng rb 1)
  obtain ⟨c2, hc2⟩ : ∃ z, chV rb 2 = z := ⟨_, rfl⟩
  have r2 := lat_of (hc2 ▸ ch_rng rb 2)
  rcases hm4 with rfl | rfl | rfl | rfl
  · rcases hn4 with rfl | rfl | rfl | rfl
    · refine f_iloadN A0 at_0 (pc' := 1) rfl rfl ?_
      refine f_iconst A0 at_1 (pc' := 2) rfl 3 rfl ?_
      refine f_iand A0 at_2 (pc' := 3) rfl (0 : Int32) hm0 ?_
      refine f_istoreN A0 at_3 (pc' := 4) rfl (L' := #[.val (.int lens), .val (.int nb), .val (.int rb), .val (.int (0 : Int32)), .unset, .unset, .unset, .unset, .unset, .unset]) rfl ?_
      refine f_iloadN A0 at_4 (pc' := 5) rfl rfl ?_
      refine f_iconst A0 at_5 (pc' := 6) rfl 2 rfl ?_
      refine f_iushr A0 at_6 (pc' := 7) rfl ((lens.toUInt32 >>> ((2 : Int32) &&& 31).toUInt32).toInt32) rfl ?_
      refine f_iconst A0 at_7 (pc' := 8) rfl 3 rfl ?_
      refine f_iand A0 at_8 (pc' := 9) rfl (0 : Int32) hn1 ?_
      refine f_istore A0 at_9 (pc' := 11) rfl (L' := #[.val (.int lens), .val (.int nb), .val (.int rb), .val (.int (0 : Int32)), .val (.int (0 : Int32)), .unset, .unset, .unset, .unset, .unset]) rfl ?_
      refine f_iloadN A0 at_11 (pc' := 12) rfl rfl ?_
      refine f_iloadN A0 at_12 (pc' := 13) rfl rfl ?_
      refine f_callSW A0 at_13 (pc' := 16) rfl (wd hw 0 rfl) (wd hw 1 rfl) (wd hw 2 rfl) (wd hw 3 rfl) (by decide) pd25 [(.int (0 : Int32)), (.int nb)] [] rfl rfl rfl 0 (Nat.le_of_eq rfl) (CW.pay (W := 0) A0 hEL (m_str0 l Z a0 hw nb e0 e1 e2 zc O2 P5 h0 n0 A0.old hEL he0 s0 he1 s1 he2 s2) (wd hw 3 rfl) (wd hw 2 rfl) (by decide) (by decide) (fun _ q => nomatch q)) (kc := 4) (ks := 14) (by decide) (by decide) all0 fun v338 vm338 T338 h338 L338 A338 K338 C338 q338 => ?_
      have Q339 : Keep h0 h338 [] := K0.trans K338 all0
      obtain ⟨x338, t338, rfl, xg338, G338⟩ := q338
      show Wp pG e below _ T338 (mkF m 16 _ [(.ref x338)])
      refine f_astore A338 at_16 (pc' := 18) rfl rfl (L' := #[.val (.int lens), .val (.int nb), .val (.int rb), .val (.int (0 : Int32)), .val (.int (0 : Int32)), .val (.ref x338), .unset, .unset, .unset, .unset]) rfl ?_
      refine f_iload A338 at_18 (pc' := 20) rfl rfl ?_
      refine f_iloadN A338 at_20 (pc' := 21) rfl rfl ?_
      refine f_callSW A338 at_21 (pc' := 24) rfl (wd hw 0 rfl) (wd hw 1 rfl) (wd hw 2 rfl) (wd hw 3 rfl) (by decide) pd25 [(.int (0 : Int32)), (.int rb)] [] rfl rfl rfl 0 (Nat.le_of_eq rfl) (CW.pay (W := 0) A338 hEL (m_str0 l Z a0 hw rb c0 c1 c2 zc O2 P5 h338 n0 A338.old hEL hc0 r0 hc1 r1 hc2 r2) (wd hw 3 rfl) (wd hw 2 rfl) (by decide) (by decide) (fun _ q => nomatch q)) (kc := 4) (ks := 14) (by decide) (by decide) all0 fun v340 vm340 T340 h340 L340 A340 K340 C340 q340 => ?_
      have Q341 : Keep h0 h340 [] := Q339.trans K340 all0
      obtain ⟨x340, t340, rfl, xg340, G340⟩ := q340
      show Wp pG e below _ T340 (mkF m 24 _ [(.ref x340)])
      refine f_astore A340 at_24 (pc' := 26) rfl rfl (L' := #[.val (.int lens), .val (.int nb), .val (.int rb), .val (.int (0 : Int32)), .val (.int (0 : Int32)), .val (.ref x338), .val (.ref x340), .unset, .unset, .unset]) rfl ?_
      refine f_aload A340 at_26 (pc' := 28) rfl rfl rfl ?_
      refine f_aload A340 at_28 (pc' := 30) rfl rfl rfl ?_
      have c342 := (G338.keep K340 nin0 nin0)
      refine f_callSW A340 at_30 (pc' := 33) rfl (wd hw 26 rfl) (wd hw 27 rfl) (wd hw 28 rfl) (wd hw 29 rfl) (by decide) pd26 [(.ref x338), (.ref x340)] [] rfl rfl rfl 0 (Nat.le_of_eq rfl) (CW.pay (W := 0) A340 hEL (m_qn0 l Z a0 hw x338 t338 x340 t340 []  zc O2 P5 h340 n0 A340.old hEL c342 G340 ln (Nat.le_of_ble_eq_true rfl)  (by simp [idxD, *])) (wd hw 29 rfl) (wd hw 28 rfl) (by decide) (by decide) (fun _ q => nomatch q)) (kc := 9) (ks := 150) (by decide) (by decide) all0 fun v343 vm343 T343 h343 L343 A343 K343 C343 q343 => ?_
      have Q344 : Keep h0 h343 [] := Q341.trans K343 all0
      obtain ⟨a343, b343, rfl, ag343, G343⟩ := q343
      have G343 : Str Z h343 a343 b343 [(46 : Int32)] := G343
      show Wp pG e below _ T343 (mkF m 33 _ [(.ref a343)])
      refine f_astore A343 at_33 (pc' := 35) rfl rfl (L' := #[.val (.int lens), .val (.int nb), .val (.int rb), .val (.int (0 : Int32)), .val (.int (0 : Int32)), .val (.ref x338), .val (.ref x340), .val (.ref a343), .unset, .unset]) rfl ?_
      refine f_iload A343 at_35 (pc' := 37) rfl rfl ?_
      refine f_ifY A343 at_37 ((if0 _ _).trans (flt (by decide : ¬ (0 : Int32) < (0 : Int32))).2.2.2) (pc' := 50) (by decide) (by decide) ?_
      refine f_iload A343 at_50 (pc' := 52) rfl rfl ?_
      refine f_iconst A343 at_52 (pc' := 53) rfl 1 rfl ?_
      refine f_icY A343 at_53 (flt (by decide : ¬ (1 : Int32) < (0 : Int32))).2.2.2 (pc' := 66) (by decide) (by decide) ?_
      refine f_iload A343 at_66 (pc' := 68) rfl rfl ?_
      refine f_iconst A343 at_68 (pc' := 69) rfl 2 rfl ?_
      refine f_icY A343 at_69 (flt (by decide : ¬ (2 : Int32) < (0 : Int32))).2.2.2 (pc' := 86) (by decide) (by decide) ?_
      refine f_iconst A343 at_86 (pc' := 87) rfl 0 rfl ?_
      refine f_istore A343 at_87 (pc' := 89) rfl (L' := #[.val (.int lens), .val (.int nb), .val (.int rb), .val (.int (0 : Int32)), .val (.int (0 : Int32)), .val (.ref x338), .val (.ref x340), .val (.ref a343), .val (.int (0 : Int32)), .unset]) rfl ?_
      refine f_iload A343 at_89 (pc' := 91) rfl rfl ?_
      refine f_ifY A343 at_91 ((if0 _ _).trans (teq (by decide : (0 : Int32) = (0 : Int32))).1) (pc' := 102) (by decide) (by decide) ?_
      refine f_iloadN A343 at_102 (pc' := 103) rfl rfl ?_
      refine f_iconst A343 at_103 (pc' := 104) rfl 1 rfl ?_
      refine f_iadd A343 at_104 (pc' := 105) rfl (1 : Int32) (by decide) ?_
      refine f_iload A343 at_105 (pc' := 107) rfl rfl ?_
      refine f_iadd A343 at_107 (pc' := 108) rfl (1 : Int32) (by decide) ?_
      refine f_istore A343 at_108 (pc' := 110) rfl (L' := #[.val (.int lens), .val (.int nb), .val (.int rb), .val (.int (0 : Int32)), .val (.int (0 : Int32)), .val (.ref x338), .val (.ref x340), .val (.ref a343), .val (.int (0 : Int32)), .val (.int (1 : Int32))]) rfl ?_
      refine f_aload A343 at_110 (pc' := 112) rfl rfl rfl ?_
      refine f_callV A343 (a := a343) at_112 (pc' := 115) rfl (wd hw 170 rfl) (wd hw 94 rfl) (nfS A343 (wd hw 96 rfl)) (wd hw 96 rfl) (wd hw 95 rfl) (by decide) G343.exa pd5 [] [] rfl rfl rfl 0 (Nat.le_of_eq rfl) (payLen (W := 0) A343 hw (wd hw 5 rfl) G343 O2 P5 (by decide) (by decide)) (kc := 0) (ks := 0) (by decide) (by decide) all0 (fun _ => sf0) fun v345 T345 h345 L345 A345 K345 q345 => ?_
      obtain ⟨rfl, hh345⟩ := q345
      obtain rfl := hh345.symm
      show Wp pG e below _ T345 (mkF m 115 _ [(.int (1 : Int32))])
      refine f_iload A345 at_115 (pc' := 117) rfl rfl ?_
      refine f_icY A345 at_117 (teq (by decide : (1 : Int32) = (1 : Int32))).1 (pc' := 122) (by decide) (by decide) ?_
      refine f_aload A345 at_122 (pc' := 124) rfl rfl rfl ?_
      refine f_iconst A345 at_124 (pc' := 125) rfl 0 rfl ?_
      refine f_iload A345 at_125 (pc' := 127) rfl rfl ?_
      refine f_iloadN A345 at_127 (pc' := 128) rfl rfl ?_
      refine f_iloadN A345 at_128 (pc' := 129) rfl rfl ?_
      refine f_iloadN A345 at_129 (pc' := 130) rfl rfl ?_
      refine f_callS A345 at_130 (pc' := 133) rfl (wd hw 171 rfl) (wd hw 172 rfl) (wd hw 2 rfl) (wd hw 173 rfl) (by decide) pd27 [(.ref a343), (.int (0 : Int32)), (.int (1 : Int32)), (.int (0 : Int32)), (.int nb), (.int rb)] [] rfl rfl rfl 0 (Nat.le_of_eq rfl) (CN.pay (W := 0) A345 (m_okD l Z a0 hw a343 (0 : Int32) (1 : Int32) (0 : Int32) nb rb b343 [(46 : Int32)] 0 (46 : Int32) zc O2 P5 fm O4 rG3 h343 n0 A345.old G343 (lat2 (lc (by decide) ln)) (Nat.le_of_ble_eq_true rfl) rfl rfl (by decide) rfl (by decide) rfl) (wd hw 173 rfl) (wd hw 2 rfl) (by decide) (by decide)) (kc := 0) (ks := 0) (by decide) (by decide) all0 (fun _ => sf0) fun v346 T346 h346 L346 A346 K346 q346 => ?_
      obtain ⟨rfl, hh346⟩ := q346
      obtain rfl := hh346.symm
      show Wp pG e below _ T346 (mkF m 133 _ [(.int (1 : Int32))])
      refine f_ifN A346 at_133 ((if0 _ _).trans (feq (by decide : ¬ (1 : Int32) = (0 : Int32))).1) (pc' := 136) rfl ?_
      refine f_aload A346 at_136 (pc' := 138) rfl rfl rfl ?_
      refine f_iconst A346 at_138 (pc' := 139) rfl 1 rfl ?_
      refine f_iload A346 at_139 (pc' := 141) rfl rfl ?_
      refine f_iloadN A346 at_141 (pc' := 142) rfl rfl ?_
      refine f_iloadN A346 at_142 (pc' := 143) rfl rfl ?_
      refine f_iloadN A346 at_143 (pc' := 144) rfl rfl ?_
      refine f_callS A346 at_144 (pc' := 147) rfl (wd hw 171 rfl) (wd hw 172 rfl) (wd hw 2 rfl) (wd hw 173 rfl) (by decide) pd27 [(.ref a343), (.int (1 : Int32)), (.int (1 : Int32)), (.int (0 : Int32)), (.int nb), (.int rb)] [] rfl rfl rfl 0 (Nat.le_of_eq rfl) (CN.pay (W := 0) A346 (m_okO l Z a0 hw a343 (1 : Int32) (1 : Int32) (0 : Int32) nb rb h343 n0 A346.old (by decide)) (wd hw 173 rfl) (wd hw 2 rfl) (by decide) (by decide)) (kc := 0) (ks := 0) (by decide) (by decide) all0 (fun _ => sf0) fun v347 T347 h347 L347 A347 K347 q347 => ?_
      obtain ⟨rfl, hh347⟩ := q347
      obtain rfl := hh347.symm
      show Wp pG e below _ T347 (mkF m 147 _ [(.int (1 : Int32))])
      refine f_ifN A347 at_147 ((if0 _ _).trans (feq (by decide : ¬ (1 : Int32) = (0 : Int32))).1) (pc' := 150) rfl ?_
      refine f_aload A347 at_150 (pc' := 152) rfl rfl rfl ?_
      refine f_iconst A347 at_152 (pc' := 153) rfl 2 rfl ?_
      refine f_iload A347 at_153 (pc' := 155) rfl rfl ?_
      refine f_iloadN A347 at_155 (pc' := 156) rfl rfl ?_
      refine f_iloadN A347 at_156 (pc' := 157) rfl rfl ?_
      refine f_iloadN A347 at_157 (pc' := 158) rfl rfl ?_
      refine f_callS A347 at_158 (pc' := 161) rfl (wd hw 171 rfl) (wd hw 172 rfl) (wd hw 2 rfl) (wd hw 173 rfl) (by decide) pd27 [(.ref a343), (.int (2 : Int32)), (.int (1 : Int32)), (.int (0 : Int32)), (.int nb), (.int rb)] [] rfl rfl rfl 0 (Nat.le_of_eq rfl) (CN.pay (W := 0) A347 (m_okO l Z a0 hw a343 (2 : Int32) (1 : Int32) (0 : Int32) nb rb h343 n0 A347.old (by decide)) (wd hw 173 rfl) (wd hw 2 rfl) (by decide) (by decide)) (kc := 0) (ks := 0) (by decide) (by decide) all0 (fun _ => sf0) fun v348 T348 h348 L348 A348 K348 q348 => ?_
      obtain ⟨rfl, hh348⟩ := q348
      obtain rfl := hh348.symm
      show Wp pG e below _ T348 (mkF m 161 _ [(.int (1 : Int32))])
      refine f_ifN A348 at_161 ((if0 _ _).trans (feq (by decide : ¬ (1 : Int32) = (0 : Int32))).1) (pc' := 164) rfl ?_
      refine f_aload A348 at_164 (pc' := 166) rfl rfl rfl ?_
      refine f_iconst A348 at_166 (pc' := 167) rfl 3 rfl ?_
      refine f_iload A348 at_167 (pc' := 169) rfl rfl ?_
      refine f_iloadN A348 at_169 (pc' := 170) rfl rfl ?_
      refine f_iloadN A348 at_170 (pc' := 171) rfl rfl ?_
      refine f_iloadN A348 at_171 (pc' := 172) rfl rfl ?_
      refine f_callS A348 at_172 (pc' := 175) rfl (wd hw 171 rfl) (wd hw 172 rfl) (wd hw 2 rfl) (wd hw 173 rfl) (by decide) pd27 [(.ref a343), (.int (3 : Int32)), (.int (1 : Int32)), (.int (0 : Int32)), (.int nb), (.int rb)] [] rfl rfl rfl 0 (Nat.le_of_eq rfl) (CN.pay (W := 0) A348 (m_okO l Z a0 hw a343 (3 : Int32) (1 : Int32) (0 : Int32) nb rb h343 n0 A348.old (by decide)) (wd hw 173 rfl) (wd hw 2 rfl) (by decide) (by decide)) (kc := 0) (ks := 0) (by decide) (by decide) all0 (fun _ => sf0) fun v349 T349 h349 L349 A349 K349 q349 => ?_
      obtain ⟨rfl, hh349⟩ := q349
      obtain rfl := hh349.symm
      show Wp pG e below _ T349 (mkF m 175 _ [(.int (1 : Int32))])
      refine f_ifN A349 at_175 ((if0 _ _).trans (feq (by decide : ¬ (1 : Int32) = (0 : Int32))).1) (pc' := 178) rfl ?_
      refine f_aload A349 at_178 (pc' := 180) rfl rfl rfl ?_
      refine f_iconst A349 at_180 (pc' := 181) rfl 4 rfl ?_
      refine f_iload A349 at_181 (pc' := 183) rfl rfl ?_
      refine f_iloadN A349 at_183 (pc' := 184) rfl rfl ?_
      refine f_iloadN A349 at_184 (pc' := 185) rfl rfl ?_
      refine f_iloadN A349 at_185 (pc' := 186) rfl rfl ?_
      refine f_callS A349 at_186 (pc' := 189) rfl (wd hw 171 rfl) (wd hw 172 rfl) (wd hw 2 rfl) (wd hw 173 rfl) (by decide) pd27 [(.ref a343), (.int (4 : Int32)), (.int (1 : Int32)), (.int (0 : Int32)), (.int nb), (.int rb)] [] rfl rfl rfl 0 (Nat.le_of_eq rfl) (CN.pay (W := 0) A349 (m_okO l Z a0 hw a343 (4 : Int32) (1 : Int32) (0 : Int32) nb rb h343 n0 A349.old (by decide)) (wd hw 173 rfl) (wd hw 2 rfl) (by decide) (by decide)) (kc := 0) (ks := 0) (by decide) (by decide) all0 (fun _ => sf0) fun v350 T350 h350 L350 A350 K350 q350 => ?_
      obtain ⟨rfl, hh350⟩ := q350
      obtain rfl := hh350.symm
      show Wp pG e below _ T350 (mkF m 189 _ [(.int (1 : Int32))])
      refine f_ifN A350 at_189 ((if0 _ _).trans (feq (by decide : ¬ (1 : Int32) = (0 : Int32))).1) (pc' := 192) rfl ?_
      refine f_aload A350 at_192 (pc' := 194) rfl rfl rfl ?_
      refine f_iconst A350 at_194 (pc' := 195) rfl 5 rfl ?_
      refine f_iload A350 at_195 (pc' := 197) rfl rfl ?_
      refine f_iloadN A350 at_197 (pc' := 198) rfl rfl ?_
      refine f_iloadN A350 at_198 (pc' := 199) rfl rfl ?_
      refine f_iloadN A350 at_199 (pc' := 200) rfl rfl ?_
      refine f_callS A350 at_200 (pc' := 203) rfl (wd hw 171 rfl) (wd hw 172 rfl) (wd hw 2 rfl) (wd hw 173 rfl) (by decide) pd27 [(.ref a343), (.int (5 : Int32)), (.int (1 : Int32)), (.int (0 : Int32)), (.int nb), (.int rb)] [] rfl rfl rfl 0 (Nat.le_of_eq rfl) (CN.pay (W := 0) A350 (m_okO l Z a0 hw a343 (5 : Int32) (1 : Int32) (0 : Int32) nb rb h343 n0 A350.old (by decide)) (wd hw 173 rfl) (wd hw 2 rfl) (by decide) (by decide)) (kc := 0) (ks := 0) (by decide) (by decide) all0 (fun _ => sf0) fun v351 T351 h351 L351 A351 K351 q351 => ?_
      obtain ⟨rfl, hh351⟩ := q351
      obtain rfl := hh351.symm
      show Wp pG e below _ T351 (mkF m 203 _ [(.int (1 : Int32))])
      refine f_ifN A351 at_203 ((if0 _ _).trans (feq (by decide : ¬ (1 : Int32) = (0 : Int32))).1) (pc' := 206) rfl ?_
      refine f_aload A351 at_206 (pc' := 208) rfl rfl rfl ?_
      refine f_bipush A351 at_208 (pc' := 210) rfl 6 rfl ?_
      refine f_iload A351 at_210 (pc' := 212) rfl rfl ?_
      refine f_iloadN A351 at_212 (pc' := 213) rfl rfl ?_
      refine f_iloadN A351 at_213 (pc' := 214) rfl rfl ?_
      refine f_iloadN A351 at_214 (pc' := 215) rfl rfl ?_
      refine f_callS A351 at_215 (pc' := 218) rfl (wd hw 171 rfl) (wd hw 172 rfl) (wd hw 2 rfl) (wd hw 173 rfl) (by decide) pd27 [(.ref a343), (.int (6 : Int32)), (.int (1 : Int32)), (.int (0 : Int32)), (.int nb), (.int rb)] [] rfl rfl rfl 0 (Nat.le_of_eq rfl) (CN.pay (W := 0) A351 (m_okO l Z a0 hw a343 (6 : Int32) (1 : Int32) (0 : Int32) nb rb h343 n0 A351.old (by decide)) (wd hw 173 rfl) (wd hw 2 rfl) (by decide) (by decide)) (kc := 0) (ks := 0) (by decide) (by decide) all0 (fun _ => sf0) fun v352 T352 h352 L352 A352 K352 q352 => ?_
      obtain ⟨rfl, hh352⟩ := q352
      obtain rfl := hh352.symm
      show Wp pG e below _ T352 (mkF m 218 _ [(.int (1 : Int32))])
      refine f_ifN A352 at_218 ((if0 _ _).trans (feq (by decide : ¬ (1 : Int32) = (0 : Int32))).1) (pc' := 221) rfl ?_
      refine f_iconst A352 at_221 (pc' := 222) rfl 1 rfl ?_
      refine f_goto A352 at_222 (pc' := 226) (by decide) (by decide) ?_
      exact f_retBW A352 hEL hlk hret at_226 (by decide) (1 : Int32) (by decide) (by decide) (by decide) Q344 rfl
    · refine f_iloadN A0 at_0 (pc' := 1) rfl rfl ?_
      refine f_iconst A0 at_1 (pc' := 2) rfl 3 rfl ?_
      refine f_iand A0 at_2 (pc' := 3) rfl (0 : Int32) hm0 ?_
      refine f_istoreN A0 at_3 (pc' := 4) rfl (L' := #[.val (.int lens), .val (.int nb), .val (.int rb), .val (.int (0 : Int32)), .unset, .unset, .unset, .unset, .unset, .unset]) rfl ?_
      refine f_iloadN A0 at_4 (pc' := 5) rfl rfl ?_
      refine f_iconst A0 at_5 (pc' := 6) rfl 2 rfl ?_
      refine f_iushr A0 at_6 (pc' := 7) rfl ((lens.toUInt32 >>> ((2 : Int32) &&& 31).toUInt32).toInt32) rfl ?_
      refine f_iconst A0 at_7 (pc' := 8) rfl 3 rfl ?_
      refine f_iand A0 at_8 (pc' := 9) rfl (1 : Int32) hn1 ?_
      refine f_istore A0 at_9 (pc' := 11) rfl (L' := #[.val (.int lens), .val (.int nb), .val (.int rb), .val (.int (0 : Int32)), .val (.int (1 : Int32)), .unset, .unset, .unset, .unset, .unset]) rfl ?_
      refine f_iloadN A0 at_11 (pc' := 12) rfl rfl ?_
      refine f_iloadN A0 at_12 (pc' := 13) rfl rfl ?_
      refine f_callSW A0 at_13 (pc' := 16) rfl (wd hw 0 rfl) (wd hw 1 rfl) (wd hw 2 rfl) (wd hw 3 rfl) (by decide) pd25 [(.int (0 : Int32)), (.int nb)] [] rfl rfl rfl 0 (Nat.le_of_eq rfl) (CW.pay (W := 0) A0 hEL (m_str0 l Z a0 hw nb e0 e1 e2 zc O2 P5 h0 n0 A0.old hEL he0 s0 he1 s1 he2 s2) (wd hw 3 rfl) (wd hw 2 rfl) (by decide) (by decide) (fun _ q => nomatch q)) (kc := 4) (ks := 14) (by decide) (by decide) all0 fun v353 vm353 T353 h353 L353 A353 K353 C353 q353 => ?_
      have Q354 : Keep h0 h353 [] := K0.trans K353 all0
      obtain ⟨x353, t353, rfl, xg353, G353⟩ := q353
      show Wp pG e below _ T353 (mkF m 16 _ [(.ref x353)])
      refine f_astore A353 at_16 (pc' := 18) rfl rfl (L' := #[.val (.int lens), .val (.int nb), .val (.int rb), .val (.int (0 : Int32)), .val (.int (1 : Int32)), .val (.ref x353), .unset, .unset, .unset, .unset]) rfl ?_
      refine f_iload A353 at_18 (pc' := 20) rfl rfl ?_
      refine f_iloadN A353 at_20 (pc' := 21) rfl rfl ?_
      refine f_callSW A353 at_21 (pc' := 24) rfl (wd hw 0 rfl) (wd hw 1 rfl) (wd hw 2 rfl) (wd hw 3 rfl) (by decide) pd25 [(.int (1 : Int32)), (.int rb)] [] rfl rfl rfl 0 (Nat.le_of_eq rfl) (CW.pay (W := 0) A353 hEL (m_str1 l Z a0 hw rb c0 c1 c2 zc O2 P5 h353 n0 A353.old hEL hc0 r0 hc1 r1 hc2 r2) (wd hw 3 rfl) (wd hw 2 rfl) (by decide) (by decide) (fun _ q => nomatch q)) (kc := 4) (ks := 14) (by decide) (by decide) all0 fun v355 vm355 T355 h355 L355 A355 K355 C355 q355 => ?_
      have Q356 : Keep h0 h355 [] := Q354.trans K355 all0
      obtain ⟨x355, t355, rfl, xg355, G355⟩ := q355
      show Wp pG e below _ T355 (mkF m 24 _ [(.ref x355)])
      refine f_astore A355 at_24 (pc' := 26) rfl rfl (L' := #[.val (.int lens), .val (.int nb), .val (.int rb), .val (.int (0 : Int32)), .val (.int (1 : Int32)), .val (.ref x353), .val (.ref x355), .unset, .unset, .unset]) rfl ?_
      by_cases q0 : c0 = 46
      · refine f_aload A355 at_26 (pc' := 28) rfl rfl rfl ?_
        refine f_aload A355 at_28 (pc' := 30) rfl rfl rfl ?_
        refine f_callSW A355 at_30 (pc' := 33) rfl (wd hw 26 rfl) (wd hw 27 rfl) (wd hw 28 rfl) (wd hw 29 rfl) (by decide) pd26 [(.ref x353), (.ref x355)] [] rfl rfl rfl 0 (Nat.le_of_eq rfl) (CW.pay (W := 0) A355 hEL (m_qd1 l Z a0 hw x353 x355 t355 c0 zc O2 P5 h355 n0 A355.old hEL G355 r0 (by simp [idxD, *])) (wd hw 29 rfl) (wd hw 28 rfl) (by decide) (by decide) (fun _ q => nomatch q)) (kc := 2) (ks := 8) (by decide) (by decide) all0 fun v357 vm357 T357 h357 L357 A357 K357 C357 q357 => ?_
        have Q358 : Keep h0 h357 [] := Q356.trans K357 all0
        obtain rfl := q357
        show Wp pG e below _ T357 (mkF m 33 _ [(.ref x355)])
        refine f_astore A357 at_33 (pc' := 35) rfl rfl (L' := #[.val (.int lens), .val (.int nb), .val (.int rb), .val (.int (0 : Int32)), .val (.int (1 : Int32)), .val (.ref x353), .val (.ref x355), .val (.ref x355), .unset, .unset]) rfl ?_
        refine f_iload A357 at_35 (pc' := 37) rfl rfl ?_
        refine f_ifN A357 at_37 ((if0 _ _).trans (tlt (by decide : (0 : Int32) < (1 : Int32))).2.2.2) (pc' := 40) rfl ?_
        refine f_iloadN A357 at_40 (pc' := 41) rfl rfl ?_
        refine f_iconst A357 at_41 (pc' := 42) rfl 0 rfl ?_
        refine f_callS A357 at_42 (pc' := 45) rfl (wd hw 190 rfl) (wd hw 191 rfl) (wd hw 2 rfl) (wd hw 192 rfl) (by decide) pd16 [(.int rb), (.int (0 : Int32))] [] rfl rfl rfl 0 (Nat.le_of_eq rfl) (CN.pay (W := 0) A357 (m_ch l Z a0 hw rb (0 : Int32) c0 h357 n0 A357.old hc0) (wd hw 192 rfl) (wd hw 2 rfl) (by decide) (by decide)) (kc := 0) (ks := 0) (by decide) (by decide) all0 (fun _ => sf0) fun v359 T359 h359 L359 A359 K359 q359 => ?_
        obtain ⟨rfl, hh359⟩ := q359
        obtain rfl := hh359.symm
        show Wp pG e below _ T359 (mkF m 45 _ [(.int c0)])
        refine f_bipush A359 at_45 (pc' := 47) rfl 46 rfl ?_
        refine f_icY A359 at_47 (teq q0).1 (pc' := 82) (by decide) (by decide) ?_
        refine f_iconst A359 at_82 (pc' := 83) rfl 1 rfl ?_
        refine f_goto A359 at_83 (pc' := 87) (by decide) (by decide) ?_
        refine f_istore A359 at_87 (pc' := 89) rfl (L' := #[.val (.int lens), .val (.int nb), .val (.int rb), .val (.int (0 : Int32)), .val (.int (1 : Int32)), .val (.ref x353), .val (.ref x355), .val (.ref x355), .val (.int (1 : Int32)), .unset]) rfl ?_
        refine f_iload A359 at_89 (pc' := 91) rfl rfl ?_
        refine f_ifN A359 at_91 ((if0 _ _).trans (feq (by decide : ¬ (1 : Int32) = (0 : Int32))).1) (pc' := 94) rfl ?_
        refine f_aload A359 at_94 (pc' := 96) rfl rfl rfl ?_
        refine f_aload A359 at_96 (pc' := 98) rfl rfl rfl ?_
        have c361 := (G355.exa.keep K357)
        refine f_callV A359 (a := x355) at_98 (pc' := 101) rfl (wd hw 206 rfl) (wd hw 207 rfl) (nfS A359 (wd hw 209 rfl)) (wd hw 209 rfl) (wd hw 208 rfl) (by decide) c361 pd28 [(.ref x355)] [] rfl rfl rfl 0 (Nat.le_of_eq rfl) (CN.pay (W := 0) A359 (m_eqself l Z a0 hw x355 h357 n0 A359.old) (wd hw 210 rfl) (wd hw 6 rfl) (by decide) (by decide)) (kc := 0) (ks := 0) (by decide) (by decide) all0 (fun _ => sf0) fun v360 T360 h360 L360 A360 K360 q360 => ?_
        obtain ⟨rfl, hh360⟩ := q360
        obtain rfl := hh360.symm
        show Wp pG e below _ T360 (mkF m 101 _ [(.int (1 : Int32))])
        exact f_retBW A360 hEL hlk hret at_101 (by decide) (1 : Int32) (by decide) (by decide) (by decide) Q358 rfl
      · refine f_aload A355 at_26 (pc' := 28) rfl rfl rfl ?_
        refine f_aload A355 at_28 (pc' := 30) rfl rfl rfl ?_
        have c362 := (G353.keep K355 nin0 nin0)
        refine f_callSW A355 at_30 (pc' := 33) rfl (wd hw 26 rfl) (wd hw 27 rfl) (wd hw 28 rfl) (wd hw 29 rfl) (by decide) pd26 [(.ref x353), (.ref x355)] [] rfl rfl rfl 0 (Nat.le_of_eq rfl) (CW.pay (W := 0) A355 hEL (m_qn1 l Z a0 hw x353 t353 x355 t355 [] c0 zc O2 P5 h355 n0 A355.old hEL c362 G355 ln (Nat.le_of_ble_eq_true rfl) r0 (by simp [idxD, *])) (wd hw 29 rfl) (wd hw 28 rfl) (by decide) (by decide) (fun _ q => nomatch q)) (kc := 9) (ks := 150) (by decide) (by decide) all0 fun v363 vm363 T363 h363 L363 A363 K363 C363 q363 => ?_
        have Q364 : Keep h0 h363 [] := Q356.trans K363 all0
        obtain ⟨a363, b363, rfl, ag363, G363⟩ := q363
        have G363 : Str Z h363 a363 b363 [(46 : Int32), c0] := G363
        show Wp pG e below _ T363 (mkF m 33 _ [(.ref a363)])
        refine f_astore A363 at_33 (pc' := 35) rfl rfl (L' := #[.val (.int lens), .val (.int nb), .val (.int rb), .val (.int (0 : Int32)), .val (.int (1 : Int32)), .val (.ref x353), .val (.ref x355), .val (.ref a363), .unset, .unset]) rfl ?_
        refine f_iload A363 at_35 (pc' := 37) rfl rfl ?_
        refine f_ifN A363 at_37 ((if0 _ _).trans (tlt (by decide : (0 : Int32) < (1 : Int32))).2.2.2) (pc' := 40) rfl ?_
        refine f_iloadN A363 at_40 (pc' := 41) rfl rfl ?_
        refine f_iconst A363 at_41 (pc' := 42) rfl 0 rfl ?_
        refine f_callS A363 at_42 (pc' := 45) rfl (wd hw 190 rfl) (wd hw 191 rfl) (wd hw 2 rfl) (wd hw 192 rfl) (by decide) pd16 [(.int rb), (.int (0 : Int32))] [] rfl rfl rfl 0 (Nat.le_of_eq rfl) (CN.pay (W := 0) A363 (m_ch l Z a0 hw rb (0 : Int32) c0 h363 n0 A363.old hc0) (wd hw 192 rfl) (wd hw 2 rfl) (by decide) (by decide)) (kc := 0) (ks := 0) (by decide) (by decide) all0 (fun _ => sf0) fun v365 T365 h365 L365 A365 K365 q365 => ?_
        obtain ⟨rfl, hh365⟩ := q365
        obtain rfl := hh365.symm
        show Wp pG e below _ T365 (mkF m 45 _ [(.int c0)])
        refine f_bipush A365 at_45 (pc' := 47) rfl 46 rfl ?_
        refine f_icN A365 at_47 (feq q0).1 (pc' := 50) rfl ?_
        refine f_iload A365 at_50 (pc' := 52) rfl rfl ?_
        refine f_iconst A365 at_52 (pc' := 53) rfl 1 rfl ?_
        refine f_icY A365 at_53 (flt (by decide : ¬ (1 : Int32) < (1 : Int32))).2.2.2 (pc' := 66) (by decide) (by decide) ?_
        refine f_iload A365 at_66 (pc' := 68) rfl rfl ?_
        refine f_iconst A365 at_68 (pc' := 69) rfl 2 rfl ?_
        refine f_icY A365 at_69 (flt (by decide : ¬ (2 : Int32) < (1 : Int32))).2.2.2 (pc' := 86) (by decide) (by decide) ?_
        refine f_iconst A365 at_86 (pc' := 87) rfl 0 rfl ?_
        refine f_istore A365 at_87 (pc' := 89) rfl (L' := #[.val (.int lens), .val (.int nb), .val (.int rb), .val (.int (0 : Int32)), .val (.int (1 : Int32)), .val (.ref x353), .val (.ref x355), .val (.ref a363), .val (.int (0 : Int32)), .unset]) rfl ?_
        refine f_iload A365 at_89 (pc' := 91) rfl rfl ?_
        refine f_ifY A365 at_91 ((if0 _ _).trans (teq (by decide : (0 : Int32) = (0 : Int32))).1) (pc' := 102) (by decide) (by decide) ?_
        refine f_iloadN A365 at_102 (pc' := 103) rfl rfl ?_
        refine f_iconst A365 at_103 (pc' := 104) rfl 1 rfl ?_
        refine f_iadd A365 at_104 (pc' := 105) rfl (1 : Int32) (by decide) ?_
        refine f_iload A365 at_105 (pc' := 107) rfl rfl ?_
        refine f_iadd A365 at_107 (pc' := 108) rfl (2 : Int32) (by decide) ?_
        refine f_istore A365 at_108 (pc' := 110) rfl (L' := #[.val (.int lens), .val (.int nb), .val (.int rb), .val (.int (0 : Int32)), .val (.int (1 : Int32)), .val (.ref x353), .val (.ref x355), .val (.ref a363), .val (.int (0 : Int32)), .val (.int (2 : Int32))]) rfl ?_
        refine f_aload A365 at_110 (pc' := 112) rfl rfl rfl ?_
        refine f_callV A365 (a := a363) at_112 (pc' := 115) rfl (wd hw 170 rfl) (wd hw 94 rfl) (nfS A365 (wd hw 96 rfl)) (wd hw 96 rfl) (wd hw 95 rfl) (by decide) G363.exa pd5 [] [] rfl rfl rfl 0 (Nat.le_of_eq rfl) (payLen (W := 0) A365 hw (wd hw 5 rfl) G363 O2 P5 (by decide) (by decide)) (kc := 0) (ks := 0) (by decide) (by decide) all0 (fun _ => sf0) fun v366 T366 h366 L366 A366 K366 q366 => ?_
        obtain ⟨rfl, hh366⟩ := q366
        obtain rfl := hh366.symm
        show Wp pG e below _ T366 (mkF m 115 _ [(.int (2 : Int32))])
        refine f_iload A366 at_115 (pc' := 117) rfl rfl ?_
        refine f_icY A366 at_117 (teq (by decide : (2 : Int32) = (2 : Int32))).1 (pc' := 122) (by decide) (by decide) ?_
        refine f_aload A366 at_122 (pc' := 124) rfl rfl rfl ?_
        refine f_iconst A366 at_124 (pc' := 125) rfl 0 rfl ?_
        refine f_iload A366 at_125 (pc' := 127) rfl rfl ?_
        refine f_iloadN A366 at_127 (pc' := 128) rfl rfl ?_
        refine f_iloadN A366 at_128 (pc' := 129) rfl rfl ?_
        refine f_iloadN A366 at_129 (pc' := 130) rfl rfl ?_
        refine f_callS A366 at_130 (pc' := 133) rfl (wd hw 171 rfl) (wd hw 172 rfl) (wd hw 2 rfl) (wd hw 173 rfl) (by decide) pd27 [(.ref a363), (.int (0 : Int32)), (.int (2 : Int32)), (.int (0 : Int32)), (.int nb), (.int rb)] [] rfl rfl rfl 0 (Nat.le_of_eq rfl) (CN.pay (W := 0) A366 (m_okD l Z a0 hw a363 (0 : Int32) (2 : Int32) (0 : Int32) nb rb b363 [(46 : Int32), c0] 0 (46 : Int32) zc O2 P5 fm O4 rG3 h363 n0 A366.old G363 (lat2 (lc (by decide) (lc r0 ln))) (Nat.le_of_ble_eq_true rfl) rfl rfl (by decide) rfl (by decide) rfl) (wd hw 173 rfl) (wd hw 2 rfl) (by decide) (by decide)) (kc := 0) (ks := 0) (by decide) (by decide) all0 (fun _ => sf0) fun v367 T367 h367 L367 A367 K367 q367 => ?_
        obtain ⟨rfl, hh367⟩ := q367
        obtain rfl := hh367.symm
        show Wp pG e below _ T367 (mkF m 133 _ [(.int (1 : Int32))])
        refine f_ifN A367 at_133 ((if0 _ _).trans (feq (by decide : ¬ (1 : Int32) = (0 : Int32))).1) (pc' := 136) rfl ?_
        refine f_aload A367 at_136 (pc' := 138) rfl rfl rfl ?_
        refine f_iconst A367 at_138 (pc' := 139) rfl 1 rfl ?_
        refine f_iload A367 at_139 (pc' := 141) rfl rfl ?_
        refine f_iloadN A367 at_141 (pc' := 142) rfl rfl ?_
        refine f_iloadN A367 at_142 (pc' := 143) rfl rfl ?_
        refine f_iloadN A367 at_143 (pc' := 144) rfl rfl ?_
        refine f_callS A367 at_144 (pc' := 147) rfl (wd hw 171 rfl) (wd hw 172 rfl) (wd hw 2 rfl) (wd hw 173 rfl) (by decide) pd27 [(.ref a363), (.int (1 : Int32)), (.int (2 : Int32)), (.int (0 : Int32)), (.int nb), (.int rb)] [] rfl rfl rfl 0 (Nat.le_of_eq rfl) (CN.pay (W := 0) A367 (m_okR l Z a0 hw a363 (1 : Int32) (2 : Int32) (0 : Int32) nb rb b363 [(46 : Int32), c0] 1 c0 zc O2 P5 fm O4 rG3 h363 n0 A367.old G363 (lat2 (lc (by decide) (lc r0 ln))) (Nat.le_of_ble_eq_true rfl) rfl rfl (by decide) (by decide) (by decide) hc0) (wd hw 173 rfl) (wd hw 2 rfl) (by decide) (by decide)) (kc := 0) (ks := 0) (by decide) (by decide) all0 (fun _ => sf0) fun v368 T368 h368 L368 A368 K368 q368 => ?_
        obtain ⟨rfl, hh368⟩ := q368
        obtain rfl := hh368.symm
        show Wp pG e below _ T368 (mkF m 147 _ [(.int (1 : Int32))])
        refine f_ifN A368 at_147 ((if0 _ _).trans (feq (by decide : ¬ (1 : Int32) = (0 : Int32))).1) (pc' := 150) rfl ?_
        refine f_aload A368 at_150 (pc' := 152) rfl rfl rfl ?_
        refine f_iconst A368 at_152 (pc' := 153) rfl 2 rfl ?_
        refine f_iload A368 at_153 (pc' := 155) rfl rfl ?_
        refine f_iloadN A368 at_155 (pc' := 156) rfl rfl ?_
        refine f_iloadN A368 at_156 (pc' := 157) rfl rfl ?_
        refine f_iloadN A368 at_157 (pc' := 158) rfl rfl ?_
        refine f_callS A368 at_158 (pc' := 161) rfl (wd hw 171 rfl) (wd hw 172 rfl) (wd hw 2 rfl) (wd hw 173 rfl) (by decide) pd27 [(.ref a363), (.int (2 : Int32)), (.int (2 : Int32)), (.int (0 : Int32)), (.int nb), (.int rb)] [] rfl rfl rfl 0 (Nat.le_of_eq rfl) (CN.pay (W := 0) A368 (m_okO l Z a0 hw a363 (2 : Int32) (2 : Int32) (0 : Int32) nb rb h363 n0 A368.old (by decide)) (wd hw 173 rfl) (wd hw 2 rfl) (by decide) (by decide)) (kc := 0) (ks := 0) (by decide) (by decide) all0 (fun _ => sf0) fun v369 T369 h369 L369 A369 K369 q369 => ?_
        obtain ⟨rfl, hh369⟩ := q369
        obtain rfl := hh369.symm
        show Wp pG e below _ T369 (mkF m 161 _ [(.int (1 : Int32))])
        refine f_ifN A369 at_161 ((if0 _ _).trans (feq (by decide : ¬ (1 : Int32) = (0 : Int32))).1) (pc' := 164) rfl ?_
        refine f_aload A369 at_164 (pc' := 166) rfl rfl rfl ?_
        refine f_iconst A369 at_166 (pc' := 167) rfl 3 rfl ?_
        refine f_iload A369 at_167 (pc' := 169) rfl rfl ?_
        refine f_iloadN A369 at_169 (pc' := 170) rfl rfl ?_
        refine f_iloadN A369 at_170 (pc' := 171) rfl rfl ?_
        refine f_iloadN A369 at_171 (pc' := 172) rfl rfl ?_
        refine f_callS A369 at_172 (pc' := 175) rfl (wd hw 171 rfl) (wd hw 172 rfl) (wd hw 2 rfl) (wd hw 173 rfl) (by decide) pd27 [(.ref a363), (.int (3 : Int32)), (.int (2 : Int32)), (.int (0 : Int32)), (.int nb), (.int rb)] [] rfl rfl rfl 0 (Nat.le_of_eq rfl) (CN.pay (W := 0) A369 (m_okO l Z a0 hw a363 (3 : Int32) (2 : Int32) (0 : Int32) nb rb h363 n0 A369.old (by decide)) (wd hw 173 rfl) (wd hw 2 rfl) (by decide) (by decide)) (kc := 0) (ks := 0) (by decide) (by decide) all0 (fun _ => sf0) fun v370 T370 h370 L370 A370 K370 q370 => ?_
        obtain ⟨rfl, hh370⟩ := q370
        obtain rfl := hh370.symm
        show Wp pG e below _ T370 (mkF m 175 _ [(.int (1 : Int32))])
        refine f_ifN A370 at_175 ((if0 _ _).trans (feq (by decide : ¬ (1 : Int32) = (0 : Int32))).1) (pc' := 178) rfl ?_
        refine f_aload A370 at_178 (pc' := 180) rfl rfl rfl ?_
        refine f_iconst A370 at_180 (pc' := 181) rfl 4 rfl ?_
        refine f_iload A370 at_181 (pc' := 183) rfl rfl ?_
        refine f_iloadN A370 at_183 (pc' := 184) rfl rfl ?_
        refine f_iloadN A370 at_184 (pc' := 185) rfl rfl ?_
        refine f_iloadN A370 at_185 (pc' := 186) rfl rfl ?_
        refine f_callS A370 at_186 (pc' := 189) rfl (wd hw 171 rfl) (wd hw 172 rfl) (wd hw 2 rfl) (wd hw 173 rfl) (by decide) pd27 [(.ref a363), (.int (4 : Int32)), (.int (2 : Int32)), (.int (0 : Int32)), (.int nb), (.int rb)] [] rfl rfl rfl 0 (Nat.le_of_eq rfl) (CN.pay (W := 0) A370 (m_okO l Z a0 hw a363 (4 : Int32) (2 : Int32) (0 : Int32) nb rb h363 n0 A370.old (by decide)) (wd hw 173 rfl) (wd hw 2 rfl) (by decide) (by decide)) (kc := 0) (ks := 0) (by decide) (by decide) all0 (fun _ => sf0) fun v371 T371 h371 L371 A371 K371 q371 => ?_
        obtain ⟨rfl, hh371⟩ := q371
        obtain rfl := hh371.symm
        show Wp pG e below _ T371 (mkF m 189 _ [(.int (1 : Int32))])
        refine f_ifN A371 at_189 ((if0 _ _).trans (feq (by decide : ¬ (1 : Int32) = (0 : Int32))).1) (pc' := 192) rfl ?_
        refine f_aload A371 at_192 (pc' := 194) rfl rfl rfl ?_
        refine f_iconst A371 at_194 (pc' := 195) rfl 5 rfl ?_
        refine f_iload A371 at_195 (pc' := 197) rfl rfl ?_
        refine f_iloadN A371 at_197 (pc' := 198) rfl rfl ?_
        refine f_iloadN A371 at_198 (pc' := 199) rfl rfl ?_
        refine f_iloadN A371 at_199 (pc' := 200) rfl rfl ?_
        refine f_callS A371 at_200 (pc' := 203) rfl (wd hw 171 rfl) (wd hw 172 rfl) (wd hw 2 rfl) (wd hw 173 rfl) (by decide) pd27 [(.ref a363), (.int (5 : Int32)), (.int (2 : Int32)), (.int (0 : Int32)), (.int nb), (.int rb)] [] rfl rfl rfl 0 (Nat.le_of_eq rfl) (CN.pay (W := 0) A371 (m_okO l Z a0 hw a363 (5 : Int32) (2 : Int32) (0 : Int32) nb rb h363 n0 A371.old (by decide)) (wd hw 173 rfl) (wd hw 2 rfl) (by decide) (by decide)) (kc := 0) (ks := 0) (by decide) (by decide) all0 (fun _ => sf0) fun v372 T372 h372 L372 A372 K372 q372 => ?_
        obtain ⟨rfl, hh372⟩ := q372
        obtain rfl := hh372.symm
        show Wp pG e below _ T372 (mkF m 203 _ [(.int (1 : Int32))])
        refine f_ifN A372 at_203 ((if0 _ _).trans (feq (by decide : ¬ (1 : Int32) = (0 : Int32))).1) (pc' := 206) rfl ?_
        refine f_aload A372 at_206 (pc' := 208) rfl rfl rfl ?_
        refine f_bipush A372 at_208 (pc' := 210) rfl 6 rfl ?_
        refine f_iload A372 at_210 (pc' := 212) rfl rfl ?_
        refine f_iloadN A372 at_212 (pc' := 213) rfl rfl ?_
        refine f_iloadN A372 at_213 (pc' := 214) rfl rfl ?_
        refine f_iloadN A372 at_214 (pc' := 215) rfl rfl ?_
        refine f_callS A372 at_215 (pc' := 218) rfl (wd hw 171 rfl) (wd hw 172 rfl) (wd hw 2 rfl) (wd hw 173 rfl) (by decide) pd27 [(.ref a363), (.int (6 : Int32)), (.int (2 : Int32)), (.int (0 : Int32)), (.int nb), (.int rb)] [] rfl rfl rfl 0 (Nat.le_of_eq rfl) (CN.pay (W := 0) A372 (m_okO l Z a0 hw a363 (6 : Int32) (2 : Int32) (0 : Int32) nb rb h363 n0 A372.old (by decide)) (wd hw 173 rfl) (wd hw 2 rfl) (by decide) (by decide)) (kc := 0) (ks := 0) (by decide) (by decide) all0 (fun _ => sf0) fun v373 T373 h373 L373 A373 K373 q373 => ?_
        obtain ⟨rfl, hh373⟩ := q373
        obtain rfl := hh373.symm
        show Wp pG e below _ T373 (mkF m 218 _ [(.int (1 : Int32))])
        refine f_ifN A373 at_218 ((if0 _ _).trans (feq (by decide : ¬ (1 : Int32) = (0 : Int32))).1) (pc' := 221) rfl ?_
        refine f_iconst A373 at_221 (pc' := 222) rfl 1 rfl ?_
        refine f_goto A373 at_222 (pc' := 226) (by decide) (by decide) ?_
        exact f_retBW A373 hEL hlk hret at_226 (by decide) (1 : Int32) (by decide) (by decide) (by decide) Q364 rfl
    · refine f_iloadN A0 at_0 (pc' := 1) rfl rfl ?_
      refine f_iconst A0 at_1 (pc' := 2) rfl 3 rfl ?_
      refine f_iand A0 at_2 (pc' := 3) rfl (0 : Int32) hm0 ?_
      refine f_istoreN A0 at_3 (pc' := 4) rfl (L' := #[.val (.int lens), .val (.int nb), .val (.int rb), .val (.int (0 : Int32)), .unset, .unset, .unset, .unset, .unset, .unset]) rfl ?_
      refine f_iloadN A0 at_4 (pc' := 5) rfl rfl ?_
      refine f_iconst A0 at_5 (pc' := 6) rfl 2 rfl ?_
      refine f_iushr A0 at_6 (pc' := 7) rfl ((lens.toUInt32 >>> ((2 : Int32) &&& 31).toUInt32).toInt32) rfl ?_
      refine f_iconst A0 at_7 (pc' := 8) rfl 3 rfl ?_
      refine f_iand A0 at_8 (pc' := 9) rfl (2 : Int32) hn1 ?_
      refine f_istore A0 at_9 (pc' := 11) rfl (L' := #[.val (.int lens), .val (.int nb), .val (.int rb), .val (.int (0 : Int32)), .val (.int (2 : Int32)), .unset, .unset, .unset, .unset, .unset]) rfl ?_
      refine f_iloadN A0 at_11 (pc' := 12) rfl rfl ?_
      refine f_iloadN A0 at_12 (pc' := 13) rfl rfl ?_
      refine f_callSW A0 at_13 (pc' := 16) rfl (wd hw 0 rfl) (wd hw 1 rfl) (wd hw 2 rfl) (wd hw 3 rfl) (by decide) pd25 [(.int (0 : Int32)), (.int nb)] [] rfl rfl rfl 0 (Nat.le_of_eq rfl) (CW.pay (W := 0) A0 hEL (m_str0 l Z a0 hw nb e0 e1 e2 zc O2 P5 h0 n0 A0.old hEL he0 s0 he1 s1 he2 s2) (wd hw 3 rfl) (wd hw 2 rfl) (by decide) (by decide) (fun _ q => nomatch q)) (kc := 4) (ks := 14) (by decide) (by decide) all0 fun v374 vm374 T374 h374 L374 A374 K374 C374 q374 => ?_
      have Q375 : Keep h0 h374 [] := K0.trans K374 all0
      obtain ⟨x374, t374, rfl, xg374, G374⟩ := q374
      show Wp pG e below _ T374 (mkF m 16 _ [(.ref x374)])
      refine f_astore A374 at_16 (pc' := 18) rfl rfl (L' := #[.val (.int lens), .val (.int nb), .val (.int rb), .val (.int (0 : Int32)), .val (.int (2 : Int32)), .val (.ref x374), .unset, .unset, .unset, .unset]) rfl ?_
      refine f_iload A374 at_18 (pc' := 20) rfl rfl ?_
      refine f_iloadN A374 at_20 (pc' := 21) rfl rfl ?_
      refine f_callSW A374 at_21 (pc' := 24) rfl (wd hw 0 rfl) (wd hw 1 rfl) (wd hw 2 rfl) (wd hw 3 rfl) (by decide) pd25 [(.int (2 : Int32)), (.int rb)] [] rfl rfl rfl 0 (Nat.le_of_eq rfl) (CW.pay (W := 0) A374 hEL (m_str2 l Z a0 hw rb c0 c1 c2 zc O2 P5 h374 n0 A374.old hEL hc0 r0 hc1 r1 hc2 r2) (wd hw 3 rfl) (wd hw 2 rfl) (by decide) (by decide) (fun _ q => nomatch q)) (kc := 4) (ks := 14) (by decide) (by decide) all0 fun v376 vm376 T376 h376 L376 A376 K376 C376 q376 => ?_
      have Q377 : Keep h0 h376 [] := Q375.trans K376 all0
      obtain ⟨x376, t376, rfl, xg376, G376⟩ := q376
      show Wp pG e below _ T376 (mkF m 24 _ [(.ref x376)])
      refine f_astore A376 at_24 (pc' := 26) rfl rfl (L' := #[.val (.int lens), .val (.int nb), .val (.int rb), .val (.int (0 : Int32)), .val (.int (2 : Int32)), .val (.ref x374), .val (.ref x376), .unset, .unset, .unset]) rfl ?_
      by_cases q0 : c0 = 46
      · refine f_aload A376 at_26 (pc' := 28) rfl rfl rfl ?_
        refine f_aload A376 at_28 (pc' := 30) rfl rfl rfl ?_
        refine f_callSW A376 at_30 (pc' := 33) rfl (wd hw 26 rfl) (wd hw 27 rfl) (wd hw 28 rfl) (wd hw 29 rfl) (by decide) pd26 [(.ref x374), (.ref x376)] [] rfl rfl rfl 0 (Nat.le_of_eq rfl) (CW.pay (W := 0) A376 hEL (m_qd2 l Z a0 hw x374 x376 t376 c0 c1 zc O2 P5 h376 n0 A376.old hEL G376 r0 r1 (by simp [idxD, *])) (wd hw 29 rfl) (wd hw 28 rfl) (by decide) (by decide) (fun _ q => nomatch q)) (kc := 2) (ks := 8) (by decide) (by decide) all0 fun v378 vm378 T378 h378 L378 A378 K378 C378 q378 => ?_
        have Q379 : Keep h0 h378 [] := Q377.trans K378 all0
        obtain rfl := q378
        show Wp pG e below _ T378 (mkF m 33 _ [(.ref x376)])
        refine f_astore A378 at_33 (pc' := 35) rfl rfl (L' := #[.val (.int lens), .val (.int nb), .val (.int rb), .val (.int (0 : Int32)), .val (.int (2 : Int32)), .val (.ref x374), .val (.ref x376), .val (.ref x376), .unset, .unset]) rfl ?_
        refine f_iload A378 at_35 (pc' := 37) rfl rfl ?_
        refine f_ifN A378 at_37 ((if0 _ _).trans (tlt (by decide : (0 : Int32) < (2 : Int32))).2.2.2) (pc' := 40) rfl ?_
        refine f_iloadN A378 at_40 (pc' := 41) rfl rfl ?_
        refine f_iconst A378 at_41 (pc' := 42) rfl 0 rfl ?_
        refine f_callS A378 at_42 (pc' := 45) rfl (wd hw 190 rfl) (wd hw 191 rfl) (wd hw 2 rfl) (wd hw 192 rfl) (by decide) pd16 [(.int rb), (.int (0 : Int32))] [] rfl rfl rfl 0 (Nat.le_of_eq rfl) (CN.pay (W := 0) A378 (m_ch l Z a0 hw rb (0 : Int32) c0 h378 n0 A378.old hc0) (wd hw 192 rfl) (wd hw 2 rfl) (by decide) (by decide)) (kc := 0) (ks := 0) (by decide) (by decide) all0 (fun _ => sf0) fun v380 T380 h380 L380 A380 K380 q380 => ?_
        obtain ⟨rfl, hh380⟩ := q380
        obtain rfl := hh380.symm
        show Wp pG e below _ T380 (mkF m 45 _ [(.int c0)])
        refine f_bipush A380 at_45 (pc' := 47) rfl 46 rfl ?_
        refine f_icY A380 at_47 (teq q0).1 (pc' := 82) (by decide) (by decide) ?_
        refine f_iconst A380 at_82 (pc' := 83) rfl 1 rfl ?_
        refine f_goto A380 at_83 (pc' := 87) (by decide) (by decide) ?_
        refine f_istore A380 at_87 (pc' := 89) rfl (L' := #[.val (.int lens), .val (.int nb), .val (.int rb), .val (.int (0 : Int32)), .val (.int (2 : Int32)), .val (.ref x374), .val (.ref x376), .val (.ref x376), .val (.int (1 : Int32)), .unset]) rfl ?_
        refine f_iload A380 at_89 (pc' := 91) rfl rfl ?_
        refine f_ifN A380 at_91 ((if0 _ _).trans (feq (by decide : ¬ (1 : Int32) = (0 : Int32))).1) (pc' := 94) rfl ?_
        refine f_aload A380 at_94 (pc' := 96) rfl rfl rfl ?_
        refine f_aload A380 at_96 (pc' := 98) rfl rfl rfl ?_
        have c382 := (G376.exa.keep K378)
        refine f_callV A380 (a := x376) at_98 (pc' := 101) rfl (wd hw 206 rfl) (wd hw 207 rfl) (nfS A380 (wd hw 209 rfl)) (wd hw 209 rfl) (wd hw 208 rfl) (by decide) c382 pd28 [(.ref x376)] [] rfl rfl rfl 0 (Nat.le_of_eq rfl) (CN.pay (W := 0) A380 (m_eqself l Z a0 hw x376 h378 n0 A380.old) (wd hw 210 rfl) (wd hw 6 rfl) (by decide) (by decide)) (kc := 0) (ks := 0) (by decide) (by decide) all0 (fun _ => sf0) fun v381 T381 h381 L381 A381 K381 q381 => ?_
        obtain ⟨rfl, hh381⟩ := q381
        obtain rfl := hh381.symm
        show Wp pG e below _ T381 (mkF m 101 _ [(.int (1 : Int32))])
        exact f_retBW A381 hEL hlk hret at_101 (by decide) (1 : Int32) (by decide) (by decide) (by decide) Q379 rfl
      · by_cases q1 : c1 = 46
        · refine f_aload A376 at_26 (pc' := 28) rfl rfl rfl ?_
          refine f_aload A376 at_28 (pc' := 30) rfl rfl rfl ?_
          refine f_callSW A376 at_30 (pc' := 33) rfl (wd hw 26 rfl) (wd hw 27 rfl) (wd hw 28 rfl) (wd hw 29 rfl) (by decide) pd26 [(.ref x374), (.ref x376)] [] rfl rfl rfl 0 (Nat.le_of_eq rfl) (CW.pay (W := 0) A376 hEL (m_qd2 l Z a0 hw x374 x376 t376 c0 c1 zc O2 P5 h376 n0 A376.old hEL G376 r0 r1 (by simp [idxD, *])) (wd hw 29 rfl) (wd hw 28 rfl) (by decide) (by decide) (fun _ q => nomatch q)) (kc := 2) (ks := 8) (by decide) (by decide) all0 fun v383 vm383 T383 h383 L383 A383 K383 C383 q383 => ?_
          have Q384 : Keep h0 h383 [] := Q377.trans K383 all0
          obtain rfl := q383
          show Wp pG e below _ T383 (mkF m 33 _ [(.ref x376)])
          refine f_astore A383 at_33 (pc' := 35) rfl rfl (L' := #[.val (.int lens), .val (.int nb), .val (.int rb), .val (.int (0 : Int32)), .val (.int (2 : Int32)), .val (.ref x374), .val (.ref x376), .val (.ref x376), .unset, .unset]) rfl ?_
          refine f_iload A383 at_35 (pc' := 37) rfl rfl ?_
          refine f_ifN A383 at_37 ((if0 _ _).trans (tlt (by decide : (0 : Int32) < (2 : Int32))).2.2.2) (pc' := 40) rfl ?_
          refine f_iloadN A383 at_40 (pc' := 41) rfl rfl ?_
          refine f_iconst A383 at_41 (pc' := 42) rfl 0 rfl ?_
          refine f_callS A383 at_42 (pc' := 45) rfl (wd hw 190 rfl) (wd hw 191 rfl) (wd hw 2 rfl) (wd hw 192 rfl) (by decide) pd16 [(.int rb), (.int (0 : Int32))] [] rfl rfl rfl 0 (Nat.le_of_eq rfl) (CN.pay (W := 0) A383 (m_ch l Z a0 hw rb (0 : Int32) c0 h383 n0 A383.old hc0) (wd hw 192 rfl) (wd hw 2 rfl) (by decide) (by decide)) (kc := 0) (ks := 0) (by decide) (by decide) all0 (fun _ => sf0) fun v385 T385 h385 L385 A385 K385 q385 => ?_
          obtain ⟨rfl, hh385⟩ := q385
          obtain rfl := hh385.symm
          show Wp pG e below _ T385 (mkF m 45 _ [(.int c0)])
          refine f_bipush A385 at_45 (pc' := 47) rfl 46 rfl ?_
          refine f_icN A385 at_47 (feq q0).1 (pc' := 50) rfl ?_
          refine f_iload A385 at_50 (pc' := 52) rfl rfl ?_
          refine f_iconst A385 at_52 (pc' := 53) rfl 1 rfl ?_
          refine f_icN A385 at_53 (tlt (by decide : (1 : Int32) < (2 : Int32))).2.2.2 (pc' := 56) rfl ?_
          refine f_iloadN A385 at_56 (pc' := 57) rfl rfl ?_
          refine f_iconst A385 at_57 (pc' := 58) rfl 1 rfl ?_
          refine f_callS A385 at_58 (pc' := 61) rfl (wd hw 190 rfl) (wd hw 191 rfl) (wd hw 2 rfl) (wd hw 192 rfl) (by decide) pd16 [(.int rb), (.int (1 : Int32))] [] rfl rfl rfl 0 (Nat.le_of_eq rfl) (CN.pay (W := 0) A385 (m_ch l Z a0 hw rb (1 : Int32) c1 h383 n0 A385.old hc1) (wd hw 192 rfl) (wd hw 2 rfl) (by decide) (by decide)) (kc := 0) (ks := 0) (by decide) (by decide) all0 (fun _ => sf0) fun v386 T386 h386 L386 A386 K386 q386 => ?_
          obtain ⟨rfl, hh386⟩ := q386
          obtain rfl := hh386.symm
          show Wp pG e below _ T386 (mkF m 61 _ [(.int c1)])
          refine f_bipush A386 at_61 (pc' := 63) rfl 46 rfl ?_
          refine f_icY A386 at_63 (teq q1).1 (pc' := 82) (by decide) (by decide) ?_
          refine f_iconst A386 at_82 (pc' := 83) rfl 1 rfl ?_
          refine f_goto A386 at_83 (pc' := 87) (by decide) (by decide) ?_
          refine f_istore A386 at_87 (pc' := 89) rfl (L' := #[.val (.int lens), .val (.int nb), .val (.int rb), .val (.int (0 : Int32)), .val (.int (2 : Int32)), .val (.ref x374), .val (.ref x376), .val (.ref x376), .val (.int (1 : Int32)), .unset]) rfl ?_
          refine f_iload A386 at_89 (pc' := 91) rfl rfl ?_
          refine f_ifN A386 at_91 ((if0 _ _).trans (feq (by decide : ¬ (1 : Int32) = (0 : Int32))).1) (pc' := 94) rfl ?_
          refine f_aload A386 at_94 (pc' := 96) rfl rfl rfl ?_
          refine f_aload A386 at_96 (pc' := 98) rfl rfl rfl ?_
          have c388 := (G376.exa.keep K383)
          refine f_callV A386 (a := x376) at_98 (pc' := 101) rfl (wd hw 206 rfl) (wd hw 207 rfl) (nfS A386 (wd hw 209 rfl)) (wd hw 209 rfl) (wd hw 208 rfl) (by decide) c388 pd28 [(.ref x376)] [] rfl rfl rfl 0 (Nat.le_of_eq rfl) (CN.pay (W := 0) A386 (m_eqself l Z a0 hw x376 h383 n0 A386.old) (wd hw 210 rfl) (wd hw 6 rfl) (by decide) (by decide)) (kc := 0) (ks := 0) (by decide) (by decide) all0 (fun _ => sf0) fun v387 T387 h387 L387 A387 K387 q387 => ?_
          obtain ⟨rfl, hh387⟩ := q387
          obtain rfl := hh387.symm
          show Wp pG e below _ T387 (mkF m 101 _ [(.int (1 : Int32))])
          exact f_retBW A387 hEL hlk hret at_101 (by decide) (1 : Int32) (by decide) (by decide) (by decide) Q384 rfl
        · refine f_aload A376 at_26 (pc' := 28) rfl rfl rfl ?_
          refine f_aload A376 at_28 (pc' := 30) rfl rfl rfl ?_
          have c389 := (G374.keep K376 nin0 nin0)
          refine f_callSW A376 at_30 (pc' := 33) rfl (wd hw 26 rfl) (wd hw 27 rfl) (wd hw 28 rfl) (wd hw 29 rfl) (by decide) pd26 [(.ref x374), (.ref x376)] [] rfl rfl rfl 0 (Nat.le_of_eq rfl) (CW.pay (W := 0) A376 hEL (m_qn2 l Z a0 hw x374 t374 x376 t376 [] c0 c1 zc O2 P5 h376 n0 A376.old hEL c389 G376 ln (Nat.le_of_ble_eq_true rfl) r0 r1 (by simp [idxD, *])) (wd hw 29 rfl) (wd hw 28 rfl) (by decide) (by decide) (fun _ q => nomatch q)) (kc := 9) (ks := 150) (by decide) (by decide) all0 fun v390 vm390 T390 h390 L390 A390 K390 C390 q390 => ?_
          have Q391 : Keep h0 h390 [] := Q377.trans K390 all0
          obtain ⟨a390, b390, rfl, ag390, G390⟩ := q390
          have G390 : Str Z h390 a390 b390 [(46 : Int32), c0, c1] := G390
          show Wp pG e below _ T390 (mkF m 33 _ [(.ref a390)])
          refine f_astore A390 at_33 (pc' := 35) rfl rfl (L' := #[.val (.int lens), .val (.int nb), .val (.int rb), .val (.int (0 : Int32)), .val (.int (2 : Int32)), .val (.ref x374), .val (.ref x376), .val (.ref a390), .unset, .unset]) rfl ?_
          refine f_iload A390 at_35 (pc' := 37) rfl rfl ?_
          refine f_ifN A390 at_37 ((if0 _ _).trans (tlt (by decide : (0 : Int32) < (2 : Int32))).2.2.2) (pc' := 40) rfl ?_
          refine f_iloadN A390 at_40 (pc' := 41) rfl rfl ?_
          refine f_iconst A390 at_41 (pc' := 42) rfl 0 rfl ?_
          refine f_callS A390 at_42 (pc' := 45) rfl (wd hw 190 rfl) (wd hw 191 rfl) (wd hw 2 rfl) (wd hw 192 rfl) (by decide) pd16 [(.int rb), (.int (0 : Int32))] [] rfl rfl rfl 0 (Nat.le_of_eq rfl) (CN.pay (W := 0) A390 (m_ch l Z a0 hw rb (0 : Int32) c0 h390 n0 A390.old hc0) (wd hw 192 rfl) (wd hw 2 rfl) (by decide) (by decide)) (kc := 0) (ks := 0) (by decide) (by decide) all0 (fun _ => sf0) fun v392 T392 h392 L392 A392 K392 q392 => ?_
          obtain ⟨rfl, hh392⟩ := q392
          obtain rfl := hh392.symm
          show Wp pG e below _ T392 (mkF m 45 _ [(.int c0)])
          refine f_bipush A392 at_45 (pc' := 47) rfl 46 rfl ?_
          refine f_icN A392 at_47 (feq q0).1 (pc' := 50) rfl ?_
          refine f_iload A392 at_50 (pc' := 52) rfl rfl ?_
          refine f_iconst A392 at_52 (pc' := 53) rfl 1 rfl ?_
          refine f_icN A392 at_53 (tlt (by decide : (1 : Int32) < (2 : Int32))).2.2.2 (pc' := 56) rfl ?_
          refine f_iloadN A392 at_56 (pc' := 57) rfl rfl ?_
          refine f_iconst A392 at_57 (pc' := 58) rfl 1 rfl ?_
          refine f_callS A392 at_58 (pc' := 61) rfl (wd hw 190 rfl) (wd hw 191 rfl) (wd hw 2 rfl) (wd hw 192 rfl) (by decide) pd16 [(.int rb), (.int (1 : Int32))] [] rfl rfl rfl 0 (Nat.le_of_eq rfl) (CN.pay (W := 0) A392 (m_ch l Z a0 hw rb (1 : Int32) c1 h390 n0 A392.old hc1) (wd hw 192 rfl) (wd hw 2 rfl) (by decide) (by decide)) (kc := 0) (ks := 0) (by decide) (by decide) all0 (fun _ => sf0) fun v393 T393 h393 L393 A393 K393 q393 => ?_
          obtain ⟨rfl, hh393⟩ := q393
          obtain rfl := hh393.symm
          show Wp pG e below _ T393 (mkF m 61 _ [(.int c1)])
          refine f_bipush A393 at_61 (pc' := 63) rfl 46 rfl ?_
          refine f_icN A393 at_63 (feq q1).1 (pc' := 66) rfl ?_
          refine f_iload A393 at_66 (pc' := 68) rfl rfl ?_
          refine f_iconst A393 at_68 (pc' := 69) rfl 2 rfl ?_
          refine f_icY A393 at_69 (flt (by decide : ¬ (2 : Int32) < (2 : Int32))).2.2.2 (pc' := 86) (by decide) (by decide) ?_
          refine f_iconst A393 at_86 (pc' := 87) rfl 0 rfl ?_
          refine f_istore A393 at_87 (pc' := 89) rfl (L' := #[.val (.int lens), .val (.int nb), .val (.int rb), .val (.int (0 : Int32)), .val (.int (2 : Int32)), .val (.ref x374), .val (.ref x376), .val (.ref a390), .val (.int (0 : Int32)), .unset]) rfl ?_
          refine f_iload A393 at_89 (pc' := 91) rfl rfl ?_
          refine f_ifY A393 at_91 ((if0 _ _).trans (teq (by decide : (0 : Int32) = (0 : Int32))).1) (pc' := 102) (by decide) (by decide) ?_
          refine f_iloadN A393 at_102 (pc' := 103) rfl rfl ?_
          refine f_iconst A393 at_103 (pc' := 104) rfl 1 rfl ?_
          refine f_iadd A393 at_104 (pc' := 105) rfl (1 : Int32) (by decide) ?_
          refine f_iload A393 at_105 (pc' := 107) rfl rfl ?_
          refine f_iadd A393 at_107 (pc' := 108) rfl (3 : Int32) (by decide) ?_
          refine f_istore A393 at_108 (pc' := 110) rfl (L' := #[.val (.int lens), .val (.int nb), .val (.int rb), .val (.int (0 : Int32)), .val (.int (2 : Int32)), .val (.ref x374), .val (.ref x376), .val (.ref a390), .val (.int (0 : Int32)), .val (.int (3 : Int32))]) rfl ?_
          refine f_aload A393 at_110 (pc' := 112) rfl rfl rfl ?_
          refine f_callV A393 (a := a390) at_112 (pc' := 115) rfl (wd hw 170 rfl) (wd hw 94 rfl) (nfS A393 (wd hw 96 rfl)) (wd hw 96 rfl) (wd hw 95 rfl) (by decide) G390.exa pd5 [] [] rfl rfl rfl 0 (Nat.le_of_eq rfl) (payLen (W := 0) A393 hw (wd hw 5 rfl) G390 O2 P5 (by decide) (by decide)) (kc := 0) (ks := 0) (by decide) (by decide) all0 (fun _ => sf0) fun v394 T394 h394 L394 A394 K394 q394 => ?_
          obtain ⟨rfl, hh394⟩ := q394
          obtain rfl := hh394.symm
          show Wp pG e below _ T394 (mkF m 115 _ [(.int (3 : Int32))])
          refine f_iload A394 at_115 (pc' := 117) rfl rfl ?_
          refine f_icY A394 at_117 (teq (by decide : (3 : Int32) = (3 : Int32))).1 (pc' := 122) (by decide) (by decide) ?_
          refine f_aload A394 at_122 (pc' := 124) rfl rfl rfl ?_
          refine f_iconst A394 at_124 (pc' := 125) rfl 0 rfl ?_
          refine f_iload A394 at_125 (pc' := 127) rfl rfl ?_
          refine f_iloadN A394 at_127 (pc' := 128) rfl rfl ?_
          refine f_iloadN A394 at_128 (pc' := 129) rfl rfl ?_
          refine f_iloadN A394 at_129 (pc' := 130) rfl rfl ?_
          refine f_callS A394 at_130 (pc' := 133) rfl (wd hw 171 rfl) (wd hw 172 rfl) (wd hw 2 rfl) (wd hw 173 rfl) (by decide) pd27 [(.ref a390), (.int (0 : Int32)), (.int (3 : Int32)), (.int (0 : Int32)), (.int nb), (.int rb)] [] rfl rfl rfl 0 (Nat.le_of_eq rfl) (CN.pay (W := 0) A394 (m_okD l Z a0 hw a390 (0 : Int32) (3 : Int32) (0 : Int32) nb rb b390 [(46 : Int32), c0, c1] 0 (46 : Int32) zc O2 P5 fm O4 rG3 h390 n0 A394.old G390 (lat2 (lc (by decide) (lc r0 (lc r1 ln)))) (Nat.le_of_ble_eq_true rfl) rfl rfl (by decide) rfl (by decide) rfl) (wd hw 173 rfl) (wd hw 2 rfl) (by decide) (by decide)) (kc := 0) (ks := 0) (by decide) (by decide) all0 (fun _ => sf0) fun v395 T395 h395 L395 A395 K395 q395 => ?_
          obtain ⟨rfl, hh395⟩ := q395
          obtain rfl := hh395.symm
          show Wp pG e below _ T395 (mkF m 133 _ [(.int (1 : Int32))])
          refine f_ifN A395 at_133 ((if0 _ _).trans (feq (by decide : ¬ (1 : Int32) = (0 : Int32))).1) (pc' := 136) rfl ?_
          refine f_aload A395 at_136 (pc' := 138) rfl rfl rfl ?_
          refine f_iconst A395 at_138 (pc' := 139) rfl 1 rfl ?_
          refine f_iload A395 at_139 (pc' := 141) rfl rfl ?_
          refine f_iloadN A395 at_141 (pc' := 142) rfl rfl ?_
          refine f_iloadN A395 at_142 (pc' := 143) rfl rfl ?_
          refine f_iloadN A395 at_143 (pc' := 144) rfl rfl ?_
          refine f_callS A395 at_144 (pc' := 147) rfl (wd hw 171 rfl) (wd hw 172 rfl) (wd hw 2 rfl) (wd hw 173 rfl) (by decide) pd27 [(.ref a390), (.int (1 : Int32)), (.int (3 : Int32)), (.int (0 : Int32)), (.int nb), (.int rb)] [] rfl rfl rfl 0 (Nat.le_of_eq rfl) (CN.pay (W := 0) A395 (m_okR l Z a0 hw a390 (1 : Int32) (3 : Int32) (0 : Int32) nb rb b390 [(46 : Int32), c0, c1] 1 c0 zc O2 P5 fm O4 rG3 h390 n0 A395.old G390 (lat2 (lc (by decide) (lc r0 (lc r1 ln)))) (Nat.le_of_ble_eq_true rfl) rfl rfl (by decide) (by decide) (by decide) hc0) (wd hw 173 rfl) (wd hw 2 rfl) (by decide) (by decide)) (kc := 0) (ks := 0) (by decide) (by decide) all0 (fun _ => sf0) fun v396 T396 h396 L396 A396 K396 q396 => ?_
          obtain ⟨rfl, hh396⟩ := q396
          obtain rfl := hh396.symm
          show Wp pG e below _ T396 (mkF m 147 _ [(.int (1 : Int32))])
          refine f_ifN A396 at_147 ((if0 _ _).trans (feq (by decide : ¬ (1 : Int32) = (0 : Int32))).1) (pc' := 150) rfl ?_
          refine f_aload A396 at_150 (pc' := 152) rfl rfl rfl ?_
          refine f_iconst A396 at_152 (pc' := 153) rfl 2 rfl ?_
          refine f_iload A396 at_153 (pc' := 155) rfl rfl ?_
          refine f_iloadN A396 at_155 (pc' := 156) rfl rfl ?_
          refine f_iloadN A396 at_156 (pc' := 157) rfl rfl ?_
          refine f_iloadN A396 at_157 (pc' := 158) rfl rfl ?_
          refine f_callS A396 at_158 (pc' := 161) rfl (wd hw 171 rfl) (wd hw 172 rfl) (wd hw 2 rfl) (wd hw 173 rfl) (by decide) pd27 [(.ref a390), (.int (2 : Int32)), (.int (3 : Int32)), (.int (0 : Int32)), (.int nb), (.int rb)] [] rfl rfl rfl 0 (Nat.le_of_eq rfl) (CN.pay (W := 0) A396 (m_okR l Z a0 hw a390 (2 : Int32) (3 : Int32) (0 : Int32) nb rb b390 [(46 : Int32), c0, c1] 2 c1 zc O2 P5 fm O4 rG3 h390 n0 A396.old G390 (lat2 (lc (by decide) (lc r0 (lc r1 ln)))) (Nat.le_of_ble_eq_true rfl) rfl rfl (by decide) (by decide) (by decide) hc1) (wd hw 173 rfl) (wd hw 2 rfl) (by decide) (by decide)) (kc := 0) (ks := 0) (by decide) (by decide) all0 (fun _ => sf0) fun v397 T397 h397 L397 A397 K397 q397 => ?_
          obtain ⟨rfl, hh397⟩ := q397
          obtain rfl := hh397.symm
          show Wp pG e below _ T397 (mkF m 161 _ [(.int (1 : Int32))])
          refine f_ifN A397 at_161 ((if0 _ _).trans (feq (by decide : ¬ (1 : Int32) = (0 : Int32))).1) (pc' := 164) rfl ?_
          refine f_aload A397 at_164 (pc' := 166) rfl rfl rfl ?_
          refine f_iconst A397 at_166 (pc' := 167) rfl 3 rfl ?_
          refine f_iload A397 at_167 (pc' := 169) rfl rfl ?_
          refine f_iloadN A397 at_169 (pc' := 170) rfl rfl ?_
          refine f_iloadN A397 at_170 (pc' := 171) rfl rfl ?_
          refine f_iloadN A397 at_171 (pc' := 172) rfl rfl ?_
          refine f_callS A397 at_172 (pc' := 175) rfl (wd hw 171 rfl) (wd hw 172 rfl) (wd hw 2 rfl) (wd hw 173 rfl) (by decide) pd27 [(.ref a390), (.int (3 : Int32)), (.int (3 : Int32)), (.int (0 : Int32)), (.int nb), (.int rb)] [] rfl rfl rfl 0 (Nat.le_of_eq rfl) (CN.pay (W := 0) A397 (m_okO l Z a0 hw a390 (3 : Int32) (3 : Int32) (0 : Int32) nb rb h390 n0 A397.old (by decide)) (wd hw 173 rfl) (wd hw 2 rfl) (by decide) (by decide)) (kc := 0) (ks := 0) (by decide) (by decide) all0 (fun _ => sf0) fun v398 T398 h398 L398 A398 K398 q398 => ?_
          obtain ⟨rfl, hh398⟩ := q398
          obtain rfl := hh398.symm
          show Wp pG e below _ T398 (mkF m 175 _ [(.int (1 : Int32))])
          refine f_ifN A398 at_175 ((if0 _ _).trans (feq (by decide : ¬ (1 : Int32) = (0 : Int32))).1) (pc' := 178) rfl ?_
          refine f_aload A398 at_178 (pc' := 180) rfl rfl rfl ?_
          refine f_iconst A398 at_180 (pc' := 181) rfl 4 rfl ?_
          refine f_iload A398 at_181 (pc' := 183) rfl rfl ?_
          refine f_iloadN A398 at_183 (pc' := 184) rfl rfl ?_
          refine f_iloadN A398 at_184 (pc' := 185) rfl rfl ?_
          refine f_iloadN A398 at_185 (pc' := 186) rfl rfl ?_
          refine f_callS A398 at_186 (pc' := 189) rfl (wd hw 171 rfl) (wd hw 172 rfl) (wd hw 2 rfl) (wd hw 173 rfl) (by decide) pd27 [(.ref a390), (.int (4 : Int32)), (.int (3 : Int32)), (.int (0 : Int32)), (.int nb), (.int rb)] [] rfl rfl rfl 0 (Nat.le_of_eq rfl) (CN.pay (W := 0) A398 (m_okO l Z a0 hw a390 (4 : Int32) (3 : Int32) (0 : Int32) nb rb h390 n0 A398.old (by decide)) (wd hw 173 rfl) (wd hw 2 rfl) (by decide) (by decide)) (kc := 0) (ks := 0) (by decide) (by decide) all0 (fun _ => sf0) fun v399 T399 h399 L399 A399 K399 q399 => ?_
          obtain ⟨rfl, hh399⟩ := q399
          obtain rfl := hh399.symm
          show Wp pG e below _ T399 (mkF m 189 _ [(.int (1 : Int32))])
          refine f_ifN A399 at_189 ((if0 _ _).trans (feq (by decide : ¬ (1 : Int32) = (0 : Int32))).1) (pc' := 192) rfl ?_
          refine f_aload A399 at_192 (pc' := 194) rfl rfl rfl ?_
          refine f_iconst A399 at_194 (pc' := 195) rfl 5 rfl ?_
          refine f_iload A399 at_195 (pc' := 197) rfl rfl ?_
          refine f_iloadN A399 at_197 (pc' := 198) rfl rfl ?_
          refine f_iloadN A399 at_198 (pc' := 199) rfl rfl ?_
          refine f_iloadN A399 at_199 (pc' := 200) rfl rfl ?_
          refine f_callS A399 at_200 (pc' := 203) rfl (wd hw 171 rfl) (wd hw 172 rfl) (wd hw 2 rfl) (wd hw 173 rfl) (by decide) pd27 [(.ref a390), (.int (5 : Int32)), (.int (3 : Int32)), (.int (0 : Int32)), (.int nb), (.int rb)] [] rfl rfl rfl 0 (Nat.le_of_eq rfl) (CN.pay (W := 0) A399 (m_okO l Z a0 hw a390 (5 : Int32) (3 : Int32) (0 : Int32) nb rb h390 n0 A399.old (by decide)) (wd hw 173 rfl) (wd hw 2 rfl) (by decide) (by decide)) (kc := 0) (ks := 0) (by decide) (by decide) all0 (fun _ => sf0) fun v400 T400 h400 L400 A400 K400 q400 => ?_
          obtain ⟨rfl, hh400⟩ := q400
          obtain rfl := hh400.symm
          show Wp pG e below _ T400 (mkF m 203 _ [(.int (1 : Int32))])
          refine f_ifN A400 at_203 ((if0 _ _).trans (feq (by decide : ¬ (1 : Int32) = (0 : Int32))).1) (pc' := 206) rfl ?_
          refine f_aload A400 at_206 (pc' := 208) rfl rfl rfl ?_
          refine f_bipush A400 at_208 (pc' := 210) rfl 6 rfl ?_
          refine f_iload A400 at_210 (pc' := 212) rfl rfl ?_
          refine f_iloadN A400 at_212 (pc' := 213) rfl rfl ?_
          refine f_iloadN A400 at_213 (pc' := 214) rfl rfl ?_
          refine f_iloadN A400 at_214 (pc' := 215) rfl rfl ?_
          refine f_callS A400 at_215 (pc' := 218) rfl (wd hw 171 rfl) (wd hw 172 rfl) (wd hw 2 rfl) (wd hw 173 rfl) (by decide) pd27 [(.ref a390), (.int (6 : Int32)), (.int (3 : Int32)), (.int (0 : Int32)), (.int nb), (.int rb)] [] rfl rfl rfl 0 (Nat.le_of_eq rfl) (CN.pay (W := 0) A400 (m_okO l Z a0 hw a390 (6 : Int32) (3 : Int32) (0 : Int32) nb rb h390 n0 A400.old (by decide)) (wd hw 173 rfl) (wd hw 2 rfl) (by decide) (by decide)) (kc := 0) (ks := 0) (by decide) (by decide) all0 (fun _ => sf0) fun v401 T401 h401 L401 A401 K401 q401 => ?_
          obtain ⟨rfl, hh401⟩ := q401
          obtain rfl := hh401.symm
          show Wp pG e below _ T401 (mkF m 218 _ [(.int (1 : Int32))])
          refine f_ifN A401 at_218 ((if0 _ _).trans (feq (by decide : ¬ (1 : Int32) = (0 : Int32))).1) (pc' := 221) rfl ?_
          refine f_iconst A401 at_221 (pc' := 222) rfl 1 rfl ?_
          refine f_goto A401 at_222 (pc' := 226) (by decide) (by decide) ?_
          exact f_retBW A401 hEL hlk hret at_226 (by decide) (1 : Int32) (by decide) (by decide) (by decide) Q391 rfl
    · refine f_iloadN A0 at_0 (pc' := 1) rfl rfl ?_
      refine f_iconst A0 at_1 (pc' := 2) rfl 3 rfl ?_
      refine f_iand A0 at_2 (pc' := 3) rfl (0 : Int32) hm0 ?_
      refine f_istoreN A0 at_3 (pc' := 4) rfl (L' := #[.val (.int lens), .val (.int nb), .val (.int rb), .val (.int (0 : Int32)), .unset, .unset, .unset, .unset, .unset, .unset]) rfl ?_
      refine f_iloadN A0 at_4 (pc' := 5) rfl rfl ?_
      refine f_iconst A0 at_5 (pc' := 6) rfl 2 rfl ?_
      refine f_iushr A0 at_6 (pc' := 7) rfl ((lens.toUInt32 >>> ((2 : Int32) &&& 31).toUInt32).toInt32) rfl ?_
      refine f_iconst A0 at_7 (pc' := 8) rfl 3 rfl ?_
      refine f_iand A0 at_8 (pc' := 9) rfl (3 : Int32) hn1 ?_
      refine f_istore A0 at_9 (pc' := 11) rfl (L' := #[.val (.int lens), .val (.int nb), .val (.int rb), .val (.int (0 : Int32)), .val (.int (3 : Int32)), .unset, .unset, .unset, .unset, .unset]) rfl ?_
      refine f_iloadN A0 at_11 (pc' := 12) rfl rfl ?_
      refine f_iloadN A0 at_12 (pc' := 13) rfl rfl ?_
      refine f_callSW A0 at_13 (pc' := 16) rfl (wd hw 0 rfl) (wd hw 1 rfl) (wd hw 2 rfl) (wd hw 3 rfl) (by decide) pd25 [(.int (0 : Int32)), (.int nb)] [] rfl rfl rfl 0 (Nat.le_of_eq rfl) (CW.pay (W := 0) A0 hEL (m_str0 l Z a0 hw nb e0 e1 e2 zc O2 P5 h0 n0 A0.old hEL he0 s0 he1 s1 he2 s2) (wd hw 3 rfl) (wd hw 2 rfl) (by decide) (by decide) (fun _ q => nomatch q)) (kc := 4) (ks := 14) (by decide) (by decide) all0 fun v402 vm402 T402 h402 L402 A402 K402 C402 q402 => ?_
      have Q403 : Keep h0 h402 [] := K0.trans K402 all0
      obtain ⟨x402, t402, rfl, xg402, G402⟩ := q402
      show Wp pG e below _ T402 (mkF m 16 _ [(.ref x402)])
      refine f_astore A402 at_16 (pc' := 18) rfl rfl (L' := #[.val (.int lens), .val (.int nb), .val (.int rb), .val (.int (0 : Int32)), .val (.int (3 : Int32)), .val (.ref x402), .unset, .unset, .unset, .unset]) rfl ?_
      refine f_iload A402 at_18 (pc' := 20) rfl rfl ?_
      refine f_iloadN A402 at_20 (pc' := 21) rfl rfl ?_
      refine f_callSW A402 at_21 (pc' := 24) rfl (wd hw 0 rfl) (wd hw 1 rfl) (wd hw 2 rfl) (wd hw 3 rfl) (by decide) pd25 [(.int (3 : Int32)), (.int rb)] [] rfl rfl rfl 0 (Nat.le_of_eq rfl) (CW.pay (W := 0) A402 hEL (m_str3 l Z a0 hw rb c0 c1 c2 zc O2 P5 h402 n0 A402.old hEL hc0 r0 hc1 r1 hc2 r2) (wd hw 3 rfl) (wd hw 2 rfl) (by decide) (by decide) (fun _ q => nomatch q)) (kc := 4) (ks := 14) (by decide) (by decide) all0 fun v404 vm404 T404 h404 L404 A404 K404 C404 q404 => ?_
      have Q405 : Keep h0 h404 [] := Q403.trans K404 all0
      obtain ⟨x404, t404, rfl, xg404, G404⟩ := q404
      show Wp pG e below _ T404 (mkF m 24 _ [(.ref x404)])
      refine f_astore A404 at_24 (pc' := 26) rfl rfl (L' := #[.val (.int lens), .val (.int nb), .val (.int rb), .val (.int (0 : Int32)), .val (.int (3 : Int32)), .val (.ref x402), .val (.ref x404), .unset, .unset, .unset]) rfl ?_
      by_cases q0 : c0 = 46
      · refine f_aload A404 at_26 (pc' := 28) rfl rfl rfl ?_
        refine f_aload A404 at_28 (pc' := 30) rfl rfl rfl ?_
        refine f_callSW A404 at_30 (pc' := 33) rfl (wd hw 26 rfl) (wd hw 27 rfl) (wd hw 28 rfl) (wd hw 29 rfl) (by decide) pd26 [(.ref x402), (.ref x404)] [] rfl rfl rfl 0 (Nat.le_of_eq rfl) (CW.pay (W := 0) A404 hEL (m_qd3 l Z a0 hw x402 x404 t404 c0 c1 c2 zc O2 P5 h404 n0 A404.old hEL G404 r0 r1 r2 (by simp [idxD, *])) (wd hw 29 rfl) (wd hw 28 rfl) (by decide) (by decide) (fun _ q => nomatch q)) (kc := 2) (ks := 8) (by decide) (by decide) all0 fun v406 vm406 T406 h406 L406 A406 K406 C406 q406 => ?_
        have Q407 : Keep h0 h406 [] := Q405.trans K406 all0
        obtain rfl := q406
        show Wp pG e below _ T406 (mkF m 33 _ [(.ref x404)])
        refine f_astore A406 at_33 (pc' := 35) rfl rfl (L' := #[.val (.int lens), .val (.int nb), .val (.int rb), .val (.int (0 : Int32)), .val (.int (3 : Int32)), .val (.ref x402), .val (.ref x404), .val (.ref x404), .unset, .unset]) rfl ?_
        refine f_iload A406 at_35 (pc' := 37) rfl rfl ?_
        refine f_ifN A406 at_37 ((if0 _ _).trans (tlt (by decide : (0 : Int32) < (3 : Int32))).2.2.2) (pc' := 40) rfl ?_
        refine f_iloadN A406 at_40 (pc' := 41) rfl rfl ?_
        refine f_iconst A406 at_41 (pc' := 42) rfl 0 rfl ?_
        refine f_callS A406 at_42 (pc' := 45) rfl (wd hw 190 rfl) (wd hw 191 rfl) (wd hw 2 rfl) (wd hw 192 rfl) (by decide) pd16 [(.int rb), (.int (0 : Int32))] [] rfl rfl rfl 0 (Nat.le_of_eq rfl) (CN.pay (W := 0) A406 (m_ch l Z a0 hw rb (0 : Int32) c0 h406 n0 A406.old hc0) (wd hw 192 rfl) (wd hw 2 rfl) (by decide) (by decide)) (kc := 0) (ks := 0) (by decide) (by decide) all0 (fun _ => sf0) fun v408 T408 h408 L408 A408 K408 q408 => ?_
        obtain ⟨rfl, hh408⟩ := q408
        obtain rfl := hh408.symm
        show Wp pG e below _ T408 (mkF m 45 _ [(.int c0)])
        refine f_bipush A408 at_45 (pc' := 47) rfl 46 rfl ?_
        refine f_icY A408 at_47 (teq q0).1 (pc' := 82) (by decide) (by decide) ?_
        refine f_iconst A408 at_82 (pc' := 83) rfl 1 rfl ?_
        refine f_goto A408 at_83 (pc' := 87) (by decide) (by decide) ?_
        refine f_istore A408 at_87 (pc' := 89) rfl (L' := #[.val (.int lens), .val (.int nb), .val (.int rb), .val (.int (0 : Int32)), .val (.int (3 : Int32)), .val (.ref x402), .val (.ref x404), .val (.ref x404), .val (.int (1 : Int32)), .unset]) rfl ?_
        refine f_iload A408 at_89 (pc' := 91) rfl rfl ?_
        refine f_ifN A408 at_91 ((if0 _ _).trans (feq (by decide : ¬ (1 : Int32) = (0 : Int32))).1) (pc' := 94) rfl ?_
        refine f_aload A408 at_94 (pc' := 96) rfl rfl rfl ?_
        refine f_aload A408 at_96 (pc' := 98) rfl rfl rfl ?_
        have c410 := (G404.exa.keep K406)
        refine f_callV A408 (a := x404) at_98 (pc' := 101) rfl (wd hw 206 rfl) (wd hw 207 rfl) (nfS A408 (wd hw 209 rfl)) (wd hw 209 rfl) (wd hw 208 rfl) (by decide) c410 pd28 [(.ref x404)] [] rfl rfl rfl 0 (Nat.le_of_eq rfl) (CN.pay (W := 0) A408 (m_eqself l Z a0 hw x404 h406 n0 A408.old) (wd hw 210 rfl) (wd hw 6 rfl) (by decide) (by decide)) (kc := 0) (ks := 0) (by decide) (by decide) all0 (fun _ => sf0) fun v409 T409 h409 L409 A409 K409 q409 => ?_
        obtain ⟨rfl, hh409⟩ := q409
        obtain rfl := hh409.symm
        show Wp pG e below _ T409 (mkF m 101 _ [(.int (1 : Int32))])
        exact f_retBW A409 hEL hlk hret at_101 (by decide) (1 : Int32) (by decide) (by decide) (by decide) Q407 rfl
      · by_cases q1 : c1 = 46
        · refine f_aload A404 at_26 (pc' := 28) rfl rfl rfl ?_
          refine f_aload A404 at_28 (pc' := 30) rfl rfl rfl ?_
          refine f_callSW A404 at_30 (pc' := 33) rfl (wd hw 26 rfl) (wd hw 27 rfl) (wd hw 28 rfl) (wd hw 29 rfl) (by decide) pd26 [(.ref x402), (.ref x404)] [] rfl rfl rfl 0 (Nat.le_of_eq rfl) (CW.pay (W := 0) A404 hEL (m_qd3 l Z a0 hw x402 x404 t404 c0 c1 c2 zc O2 P5 h404 n0 A404.old hEL G404 r0 r1 r2 (by simp [idxD, *])) (wd hw 29 rfl) (wd hw 28 rfl) (by decide) (by decide) (fun _ q => nomatch q)) (kc := 2) (ks := 8) (by decide) (by decide) all0 fun v411 vm411 T411 h411 L411 A411 K411 C411 q411 => ?_
          have Q412 : Keep h0 h411 [] := Q405.trans K411 all0
          obtain rfl := q411
          show Wp pG e below _ T411 (mkF m 33 _ [(.ref x404)])
          refine f_astore A411 at_33 (pc' := 35) rfl rfl (L' := #[.val (.int lens), .val (.int nb), .val (.int rb), .val (.int (0 : Int32)), .val (.int (3 : Int32)), .val (.ref x402), .val (.ref x404), .val (.ref x404), .unset, .unset]) rfl ?_
          refine f_iload A411 at_35 (pc' := 37) rfl rfl ?_
          refine f_ifN A411 at_37 ((if0 _ _).trans (tlt (by decide : (0 : Int32) < (3 : Int32))).2.2.2) (pc' := 40) rfl ?_
          refine f_iloadN A411 at_40 (pc' := 41) rfl rfl ?_
          refine f_iconst A411 at_41 (pc' := 42) rfl 0 rfl ?_
          refine f_callS A411 at_42 (pc' := 45) rfl (wd hw 190 rfl) (wd hw 191 rfl) (wd hw 2 rfl) (wd hw 192 rfl) (by decide) pd16 [(.int rb), (.int (0 : Int32))] [] rfl rfl rfl 0 (Nat.le_of_eq rfl) (CN.pay (W := 0) A411 (m_ch l Z a0 hw rb (0 : Int32) c0 h411 n0 A411.old hc0) (wd hw 192 rfl) (wd hw 2 rfl) (by decide) (by decide)) (kc := 0) (ks := 0) (by decide) (by decide) all0 (fun _ => sf0) fun v413 T413 h413 L413 A413 K413 q413 => ?_
          obtain ⟨rfl, hh413⟩ := q413
          obtain rfl := hh413.symm
          show Wp pG e below _ T413 (mkF m 45 _ [(.int c0)])
          refine f_bipush A413 at_45 (pc' := 47) rfl 46 rfl ?_
          refine f_icN A413 at_47 (feq q0).1 (pc' := 50) rfl ?_
          refine f_iload A413 at_50 (pc' := 52) rfl rfl ?_
          refine f_iconst A413 at_52 (pc' := 53) rfl 1 rfl ?_
          refine f_icN A413 at_53 (tlt (by decide : (1 : Int32) < (3 : Int32))).2.2.2 (pc' := 56) rfl ?_
          refine f_iloadN A413 at_56 (pc' := 57) rfl rfl ?_
          refine f_iconst A413 at_57 (pc' := 58) rfl 1 rfl ?_
          refine f_callS A413 at_58 (pc' := 61) rfl (wd hw 190 rfl) (wd hw 191 rfl) (wd hw 2 rfl) (wd hw 192 rfl) (by decide) pd16 [(.int rb), (.int (1 : Int32))] [] rfl rfl rfl 0 (Nat.le_of_eq rfl) (CN.pay (W := 0) A413 (m_ch l Z a0 hw rb (1 : Int32) c1 h411 n0 A413.old hc1) (wd hw 192 rfl) (wd hw 2 rfl) (by decide) (by decide)) (kc := 0) (ks := 0) (by decide) (by decide) all0 (fun _ => sf0) fun v414 T414 h414 L414 A414 K414 q414 => ?_
          obtain ⟨rfl, hh414⟩ := q414
          obtain rfl := hh414.symm
          show Wp pG e below _ T414 (mkF m 61 _ [(.int c1)])
          refine f_bipush A414 at_61 (pc' := 63) rfl 46 rfl ?_
          refine f_icY A414 at_63 (teq q1).1 (pc' := 82) (by decide) (by decide) ?_
          refine f_iconst A414 at_82 (pc' := 83) rfl 1 rfl ?_
          refine f_goto A414 at_83 (pc' := 87) (by decide) (by decide) ?_
          refine f_istore A414 at_87 (pc' := 89) rfl (L' := #[.val (.int lens), .val (.int nb), .val (.int rb), .val (.int (0 : Int32)), .val (.int (3 : Int32)), .val (.ref x402), .val (.ref x404), .val (.ref x404), .val (.int (1 : Int32)), .unset]) rfl ?_
          refine f_iload A414 at_89 (pc' := 91) rfl rfl ?_
          refine f_ifN A414 at_91 ((if0 _ _).trans (feq (by decide : ¬ (1 : Int32) = (0 : Int32))).1) (pc' := 94) rfl ?_
          refine f_aload A414 at_94 (pc' := 96) rfl rfl rfl ?_
          refine f_aload A414 at_96 (pc' := 98) rfl rfl rfl ?_
          have c416 := (G404.exa.keep K411)
          refine f_callV A414 (a := x404) at_98 (pc' := 101) rfl (wd hw 206 rfl) (wd hw 207 rfl) (nfS A414 (wd hw 209 rfl)) (wd hw 209 rfl) (wd hw 208 rfl) (by decide) c416 pd28 [(.ref x404)] [] rfl rfl rfl 0 (Nat.le_of_eq rfl) (CN.pay (W := 0) A414 (m_eqself l Z a0 hw x404 h411 n0 A414.old) (wd hw 210 rfl) (wd hw 6 rfl) (by decide) (by decide)) (kc := 0) (ks := 0) (by decide) (by decide) all0 (fun _ => sf0) fun v415 T415 h415 L415 A415 K415 q415 => ?_
          obtain ⟨rfl, hh415⟩ := q415
          obtain rfl := hh415.symm
          show Wp pG e below _ T415 (mkF m 101 _ [(.int (1 : Int32))])
          exact f_retBW A415 hEL hlk hret at_101 (by decide) (1 : Int32) (by decide) (by decide) (by decide) Q412 rfl
        · by_cases q2 : c2 = 46
          · refine f_aload A404 at_26 (pc' := 28) rfl rfl rfl ?_
            refine f_aload A404 at_28 (pc' := 30) rfl rfl rfl ?_
            refine f_callSW A404 at_30 (pc' := 33) rfl (wd hw 26 rfl) (wd hw 27 rfl) (wd hw 28 rfl) (wd hw 29 rfl) (by decide) pd26 [(.ref x402), (.ref x404)] [] rfl rfl rfl 0 (Nat.le_of_eq rfl) (CW.pay (W := 0) A404 hEL (m_qd3 l Z a0 hw x402 x404 t404 c0 c1 c2 zc O2 P5 h404 n0 A404.old hEL G404 r0 r1 r2 (by simp [idxD, *])) (wd hw 29 rfl) (wd hw 28 rfl) (by decide) (by decide) (fun _ q => nomatch q)) (kc := 2) (ks := 8) (by decide) (by decide) all0 fun v417 vm417 T417 h417 L417 A417 K417 C417 q417 => ?_
            have Q418 : Keep h0 h417 [] := Q405.trans K417 all0
            obtain rfl := q417
            show Wp pG e below _ T417 (mkF m 33 _ [(.ref x404)])
            refine f_astore A417 at_33 (pc' := 35) rfl rfl (L' := #[.val (.int lens), .val (.int nb), .val (.int rb), .val (.int (0 : Int32)), .val (.int (3 : Int32)), .val (.ref x402), .val (.ref x404), .val (.ref x404), .unset, .unset]) rfl ?_
            refine f_iload A417 at_35 (pc' := 37) rfl rfl ?_
            refine f_ifN A417 at_37 ((if0 _ _).trans (tlt (by decide : (0 : Int32) < (3 : Int32))).2.2.2) (pc' := 40) rfl ?_
            refine f_iloadN A417 at_40 (pc' := 41) rfl rfl ?_
            refine f_iconst A417 at_41 (pc' := 42) rfl 0 rfl ?_
            refine f_callS A417 at_42 (pc' := 45) rfl (wd hw 190 rfl) (wd hw 191 rfl) (wd hw 2 rfl) (wd hw 192 rfl) (by decide) pd16 [(.int rb), (.int (0 : Int32))] [] rfl rfl rfl 0 (Nat.le_of_eq rfl) (CN.pay (W := 0) A417 (m_ch l Z a0 hw rb (0 : Int32) c0 h417 n0 A417.old hc0) (wd hw 192 rfl) (wd hw 2 rfl) (by decide) (by decide)) (kc := 0) (ks := 0) (by decide) (by decide) all0 (fun _ => sf0) fun v419 T419 h419 L419 A419 K419 q419 => ?_
            obtain ⟨rfl, hh419⟩ := q419
            obtain rfl := hh419.symm
            show Wp pG e below _ T419 (mkF m 45 _ [(.int c0)])
            refine f_bipush A419 at_45 (pc' := 47) rfl 46 rfl ?_
            refine f_icN A419 at_47 (feq q0).1 (pc' := 50) rfl ?_
            refine f_iload A419 at_50 (pc' := 52) rfl rfl ?_
            refine f_iconst A419 at_52 (pc' := 53) rfl 1 rfl ?_
            refine f_icN A419 at_53 (tlt (by decide : (1 : Int32) < (3 : Int32))).2.2.2 (pc' := 56) rfl ?_
            refine f_iloadN A419 at_56 (pc' := 57) rfl rfl ?_
            refine f_iconst A419 at_57 (pc' := 58) rfl 1 rfl ?_
            refine f_callS A419 at_58 (pc' := 61) rfl (wd hw 190 rfl) (wd hw 191 rfl) (wd hw 2 rfl) (wd hw 192 rfl) (by decide) pd16 [(.int rb), (.int (1 : Int32))] [] rfl rfl rfl 0 (Nat.le_of_eq rfl) (CN.pay (W := 0) A419 (m_ch l Z a0 hw rb (1 : Int32) c1 h417 n0 A419.old hc1) (wd hw 192 rfl) (wd hw 2 rfl) (by decide) (by decide)) (kc := 0) (ks := 0) (by decide) (by decide) all0 (fun _ => sf0) fun v420 T420 h420 L420 A420 K420 q420 => ?_
            obtain ⟨rfl, hh420⟩ := q420
            obtain rfl := hh420.symm
            show Wp pG e below _ T420 (mkF m 61 _ [(.int c1)])
            refine f_bipush A420 at_61 (pc' := 63) rfl 46 rfl ?_
            refine f_icN A420 at_63 (feq q1).1 (pc' := 66) rfl ?_
            refine f_iload A420 at_66 (pc' := 68) rfl rfl ?_
            refine f_iconst A420 at_68 (pc' := 69) rfl 2 rfl ?_
            refine f_icN A420 at_69 (tlt (by decide : (2 : Int32) < (3 : Int32))).2.2.2 (pc' := 72) rfl ?_
            refine f_iloadN A420 at_72 (pc' := 73) rfl rfl ?_
            refine f_iconst A420 at_73 (pc' := 74) rfl 2 rfl ?_
            refine f_callS A420 at_74 (pc' := 77) rfl (wd hw 190 rfl) (wd hw 191 rfl) (wd hw 2 rfl) (wd hw 192 rfl) (by decide) pd16 [(.int rb), (.int (2 : Int32))] [] rfl rfl rfl 0 (Nat.le_of_eq rfl) (CN.pay (W := 0) A420 (m_ch l Z a0 hw rb (2 : Int32) c2 h417 n0 A420.old hc2) (wd hw 192 rfl) (wd hw 2 rfl) (by decide) (by decide)) (kc := 0) (ks := 0) (by decide) (by decide) all0 (fun _ => sf0) fun v421 T421 h421 L421 A421 K421 q421 => ?_
            obtain ⟨rfl, hh421⟩ := q421
            obtain rfl := hh421.symm
            show Wp pG e below _ T421 (mkF m 77 _ [(.int c2)])
            refine f_bipush A421 at_77 (pc' := 79) rfl 46 rfl ?_
            refine f_icN A421 at_79 (teq q2).2 (pc' := 82) rfl ?_
            refine f_iconst A421 at_82 (pc' := 83) rfl 1 rfl ?_
            refine f_goto A421 at_83 (pc' := 87) (by decide) (by decide) ?_
            refine f_istore A421 at_87 (pc' := 89) rfl (L' := #[.val (.int lens), .val (.int nb), .val (.int rb), .val (.int (0 : Int32)), .val (.int (3 : Int32)), .val (.ref x402), .val (.ref x404), .val (.ref x404), .val (.int (1 : Int32)), .unset]) rfl ?_
            refine f_iload A421 at_89 (pc' := 91) rfl rfl ?_
            refine f_ifN A421 at_91 ((if0 _ _).trans (feq (by decide : ¬ (1 : Int32) = (0 : Int32))).1) (pc' := 94) rfl ?_
            refine f_aload A421 at_94 (pc' := 96) rfl rfl rfl ?_
            refine f_aload A421 at_96 (pc' := 98) rfl rfl rfl ?_
            have c423 := (G404.exa.keep K417)
            refine f_callV A421 (a := x404) at_98 (pc' := 101) rfl (wd hw 206 rfl) (wd hw 207 rfl) (nfS A421 (wd hw 209 rfl)) (wd hw 209 rfl) (wd hw 208 rfl) (by decide) c423 pd28 [(.ref x404)] [] rfl rfl rfl 0 (Nat.le_of_eq rfl) (CN.pay (W := 0) A421 (m_eqself l Z a0 hw x404 h417 n0 A421.old) (wd hw 210 rfl) (wd hw 6 rfl) (by decide) (by decide)) (kc := 0) (ks := 0) (by decide) (by decide) all0 (fun _ => sf0) fun v422 T422 h422 L422 A422 K422 q422 => ?_
            obtain ⟨rfl, hh422⟩ := q422
            obtain rfl := hh422.symm
            show Wp pG e below _ T422 (mkF m 101 _ [(.int (1 : Int32))])
            exact f_retBW A422 hEL hlk hret at_101 (by decide) (1 : Int32) (by decide) (by decide) (by decide) Q418 rfl
          · refine f_aload A404 at_26 (pc' := 28) rfl rfl rfl ?_
            refine f_aload A404 at_28 (pc' := 30) rfl rfl rfl ?_
            have c424 := (G402.keep K404 nin0 nin0)
            refine f_callSW A404 at_30 (pc' := 33) rfl (wd hw 26 rfl) (wd hw 27 rfl) (wd hw 28 rfl) (wd hw 29 rfl) (by decide) pd26 [(.ref x402), (.ref x404)] [] rfl rfl rfl 0 (Nat.le_of_eq rfl) (CW.pay (W := 0) A404 hEL (m_qn3 l Z a0 hw x402 t402 x404 t404 [] c0 c1 c2 zc O2 P5 h404 n0 A404.old hEL c424 G404 ln (Nat.le_of_ble_eq_true rfl) r0 r1 r2 (by simp [idxD, *])) (wd hw 29 rfl) (wd hw 28 rfl) (by decide) (by decide) (fun _ q => nomatch q)) (kc := 9) (ks := 150) (by decide) (by decide) all0 fun v425 vm425 T425 h425 L425 A425 K425 C425 q425 => ?_
            have Q426 : Keep h0 h425 [] := Q405.trans K425 all0
            obtain ⟨a425, b425, rfl, ag425, G425⟩ := q425
            have G425 : Str Z h425 a425 b425 [(46 : Int32), c0, c1, c2] := G425
            show Wp pG e below _ T425 (mkF m 33 _ [(.ref a425)])
            refine f_astore A425 at_33 (pc' := 35) rfl rfl (L' := #[.val (.int lens), .val (.int nb), .val (.int rb), .val (.int (0 : Int32)), .val (.int (3 : Int32)), .val (.ref x402), .val (.ref x404), .val (.ref a425), .unset, .unset]) rfl ?_
            refine f_iload A425 at_35 (pc' := 37) rfl rfl ?_
            refine f_ifN A425 at_37 ((if0 _ _).trans (tlt (by decide : (0 : Int32) < (3 : Int32))).2.2.2) (pc' := 40) rfl ?_
            refine f_iloadN A425 at_40 (pc' := 41) rfl rfl ?_
            refine f_iconst A425 at_41 (pc' := 42) rfl 0 rfl ?_
            refine f_callS A425 at_42 (pc' := 45) rfl (wd hw 190 rfl) (wd hw 191 rfl) (wd hw 2 rfl) (wd hw 192 rfl) (by decide) pd16 [(.int rb), (.int (0 : Int32))] [] rfl rfl rfl 0 (Nat.le_of_eq rfl) (CN.pay (W := 0) A425 (m_ch l Z a0 hw rb (0 : Int32) c0 h425 n0 A425.old hc0) (wd hw 192 rfl) (wd hw 2 rfl) (by decide) (by decide)) (kc := 0) (ks := 0) (by decide) (by decide) all0 (fun _ => sf0) fun v427 T427 h427 L427 A427 K427 q427 => ?_
            obtain ⟨rfl, hh427⟩ := q427
            obtain rfl := hh427.symm
            show Wp pG e below _ T427 (mkF m 45 _ [(.int c0)])
            refine f_bipush A427 at_45 (pc' := 47) rfl 46 rfl ?_
            refine f_icN A427 at_47 (feq q0).1 (pc' := 50) rfl ?_
            refine f_iload A427 at_50 (pc' := 52) rfl rfl ?_
            refine f_iconst A427 at_52 (pc' := 53) rfl 1 rfl ?_
            refine f_icN A427 at_53 (tlt (by decide : (1 : Int32) < (3 : Int32))).2.2.2 (pc' := 56) rfl ?_
            refine f_iloadN A427 at_56 (pc' := 57) rfl rfl ?_
            refine f_iconst A427 at_57 (pc' := 58) rfl 1 rfl ?_
            refine f_callS A427 at_58 (pc' := 61) rfl (wd hw 190 rfl) (wd hw 191 rfl) (wd hw 2 rfl) (wd hw 192 rfl) (by decide) pd16 [(.int rb), (.int (1 : Int32))] [] rfl rfl rfl 0 (Nat.le_of_eq rfl) (CN.pay (W := 0) A427 (m_ch l Z a0 hw rb (1 : Int32) c1 h425 n0 A427.old hc1) (wd hw 192 rfl) (wd hw 2 rfl) (by decide) (by decide)) (kc := 0) (ks := 0) (by decide) (by decide) all0 (fun _ => sf0) fun v428 T428 h428 L428 A428 K428 q428 => ?_
            obtain ⟨rfl, hh428⟩ := q428
            obtain rfl := hh428.symm
            show Wp pG e below _ T428 (mkF m 61 _ [(.int c1)])
            refine f_bipush A428 at_61 (pc' := 63) rfl 46 rfl ?_
            refine f_icN A428 at_63 (feq q1).1 (pc' := 66) rfl ?_
            refine f_iload A428 at_66 (pc' := 68) rfl rfl ?_
            refine f_iconst A428 at_68 (pc' := 69) rfl 2 rfl ?_
            refine f_icN A428 at_69 (tlt (by decide : (2 : Int32) < (3 : Int32))).2.2.2 (pc' := 72) rfl ?_
            refine f_iloadN A428 at_72 (pc' := 73) rfl rfl ?_
            refine f_iconst A428 at_73 (pc' := 74) rfl 2 rfl ?_
            refine f_callS A428 at_74 (pc' := 77) rfl (wd hw 190 rfl) (wd hw 191 rfl) (wd hw 2 rfl) (wd hw 192 rfl) (by decide) pd16 [(.int rb), (.int (2 : Int32))] [] rfl rfl rfl 0 (Nat.le_of_eq rfl) (CN.pay (W := 0) A428 (m_ch l Z a0 hw rb (2 : Int32) c2 h425 n0 A428.old hc2) (wd hw 192 rfl) (wd hw 2 rfl) (by decide) (by decide)) (kc := 0) (ks := 0) (by decide) (by decide) all0 (fun _ => sf0) fun v429 T429 h429 L429 A429 K429 q429 => ?_
            obtain ⟨rfl, hh429⟩ := q429
            obtain rfl := hh429.symm
            show Wp pG e below _ T429 (mkF m 77 _ [(.int c2)])
            refine f_bipush A429 at_77 (pc' := 79) rfl 46 rfl ?_
            refine f_icY A429 at_79 (feq q2).2 (pc' := 86) (by decide) (by decide) ?_
            refine f_iconst A429 at_86 (pc' := 87) rfl 0 rfl ?_
            refine f_istore A429 at_87 (pc' := 89) rfl (L' := #[.val (.int lens), .val (.int nb), .val (.int rb), .val (.int (0 : Int32)), .val (.int (3 : Int32)), .val (.ref x402), .val (.ref x404), .val (.ref a425), .val (.int (0 : Int32)), .unset]) rfl ?_
            refine f_iload A429 at_89 (pc' := 91) rfl rfl ?_
            refine f_ifY A429 at_91 ((if0 _ _).trans (teq (by decide : (0 : Int32) = (0 : Int32))).1) (pc' := 102) (by decide) (by decide) ?_
            refine f_iloadN A429 at_102 (pc' := 103) rfl rfl ?_
            refine f_iconst A429 at_103 (pc' := 104) rfl 1 rfl ?_
            refine f_iadd A429 at_104 (pc' := 105) rfl (1 : Int32) (by decide) ?_
            refine f_iload A429 at_105 (pc' := 107) rfl rfl ?_
            refine f_iadd A429 at_107 (pc' := 108) rfl (4 : Int32) (by decide) ?_
            refine f_istore A429 at_108 (pc' := 110) rfl (L' := #[.val (.int lens), .val (.int nb), .val (.int rb), .val (.int (0 : Int32)), .val (.int (3 : Int32)), .val (.ref x402), .val (.ref x404), .val (.ref a425), .val (.int (0 : Int32)), .val (.int (4 : Int32))]) rfl ?_
            refine f_aload A429 at_110 (pc' := 112) rfl rfl rfl ?_
            refine f_callV A429 (a := a425) at_112 (pc' := 115) rfl (wd hw 170 rfl) (wd hw 94 rfl) (nfS A429 (wd hw 96 rfl)) (wd hw 96 rfl) (wd hw 95 rfl) (by decide) G425.exa pd5 [] [] rfl rfl rfl 0 (Nat.le_of_eq rfl) (payLen (W := 0) A429 hw (wd hw 5 rfl) G425 O2 P5 (by decide) (by decide)) (kc := 0) (ks := 0) (by decide) (by decide) all0 (fun _ => sf0) fun v430 T430 h430 L430 A430 K430 q430 => ?_
            obtain ⟨rfl, hh430⟩ := q430
            obtain rfl := hh430.symm
            show Wp pG e below _ T430 (mkF m 115 _ [(.int (4 : Int32))])
            refine f_iload A430 at_115 (pc' := 117) rfl rfl ?_
            refine f_icY A430 at_117 (teq (by decide : (4 : Int32) = (4 : Int32))).1 (pc' := 122) (by decide) (by decide) ?_
            refine f_aload A430 at_122 (pc' := 124) rfl rfl rfl ?_
            refine f_iconst A430 at_124 (pc' := 125) rfl 0 rfl ?_
            refine f_iload A430 at_125 (pc' := 127) rfl rfl ?_
            refine f_iloadN A430 at_127 (pc' := 128) rfl rfl ?_
            refine f_iloadN A430 at_128 (pc' := 129) rfl rfl ?_
            refine f_iloadN A430 at_129 (pc' := 130) rfl rfl ?_
            refine f_callS A430 at_130 (pc' := 133) rfl (wd hw 171 rfl) (wd hw 172 rfl) (wd hw 2 rfl) (wd hw 173 rfl) (by decide) pd27 [(.ref a425), (.int (0 : Int32)), (.int (4 : Int32)), (.int (0 : Int32)), (.int nb), (.int rb)] [] rfl rfl rfl 0 (Nat.le_of_eq rfl) (CN.pay (W := 0) A430 (m_okD l Z a0 hw a425 (0 : Int32) (4 : Int32) (0 : Int32) nb rb b425 [(46 : Int32), c0, c1, c2] 0 (46 : Int32) zc O2 P5 fm O4 rG3 h425 n0 A430.old G425 (lat2 (lc (by decide) (lc r0 (lc r1 (lc r2 ln))))) (Nat.le_of_ble_eq_true rfl) rfl rfl (by decide) rfl (by decide) rfl) (wd hw 173 rfl) (wd hw 2 rfl) (by decide) (by decide)) (kc := 0) (ks := 0) (by decide) (by decide) all0 (fun _ => sf0) fun v431 T431 h431 L431 A431 K431 q431 => ?_
            obtain ⟨rfl, hh431⟩ := q431
            obtain rfl := hh431.symm
            show Wp pG e below _ T431 (mkF m 133 _ [(.int (1 : Int32))])
            refine f_ifN A431 at_133 ((if0 _ _).trans (feq (by decide : ¬ (1 : Int32) = (0 : Int32))).1) (pc' := 136) rfl ?_
            refine f_aload A431 at_136 (pc' := 138) rfl rfl rfl ?_
            refine f_iconst A431 at_138 (pc' := 139) rfl 1 rfl ?_
            refine f_iload A431 at_139 (pc' := 141) rfl rfl ?_
            refine f_iloadN A431 at_141 (pc' := 142) rfl rfl ?_
            refine f_iloadN A431 at_142 (pc' := 143) rfl rfl ?_
            refine f_iloadN A431 at_143 (pc' := 144) rfl rfl ?_
            refine f_callS A431 at_144 (pc' := 147) rfl (wd hw 171 rfl) (wd hw 172 rfl) (wd hw 2 rfl) (wd hw 173 rfl) (by decide) pd27 [(.ref a425), (.int (1 : Int32)), (.int (4 : Int32)), (.int (0 : Int32)), (.int nb), (.int rb)] [] rfl rfl rfl 0 (Nat.le_of_eq rfl) (CN.pay (W := 0) A431 (m_okR l Z a0 hw a425 (1 : Int32) (4 : Int32) (0 : Int32) nb rb b425 [(46 : Int32), c0, c1, c2] 1 c0 zc O2 P5 fm O4 rG3 h425 n0 A431.old G425 (lat2 (lc (by decide) (lc r0 (lc r1 (lc r2 ln))))) (Nat.le_of_ble_eq_true rfl) rfl rfl (by decide) (by decide) (by decide) hc0) (wd hw 173 rfl) (wd hw 2 rfl) (by decide) (by decide)) (kc := 0) (ks := 0) (by decide) (by decide) all0 (fun _ => sf0) fun v432 T432 h432 L432 A432 K432 q432 => ?_
            obtain ⟨rfl, hh432⟩ := q432
            obtain rfl := hh432.symm
            show Wp pG e below _ T432 (mkF m 147 _ [(.int (1 : Int32))])
            refine f_ifN A432 at_147 ((if0 _ _).trans (feq (by decide : ¬ (1 : Int32) = (0 : Int32))).1) (pc' := 150) rfl ?_
            refine f_aload A432 at_150 (pc' := 152) rfl rfl rfl ?_
            refine f_iconst A432 at_152 (pc' := 153) rfl 2 rfl ?_
            refine f_iload A432 at_153 (pc' := 155) rfl rfl ?_
            refine f_iloadN A432 at_155 (pc' := 156) rfl rfl ?_
            refine f_iloadN A432 at_156 (pc' := 157) rfl rfl ?_
            refine f_iloadN A432 at_157 (pc' := 158) rfl rfl ?_
            refine f_callS A432 at_158 (pc' := 161) rfl (wd hw 171 rfl) (wd hw 172 rfl) (wd hw 2 rfl) (wd hw 173 rfl) (by decide) pd27 [(.ref a425), (.int (2 : Int32)), (.int (4 : Int32)), (.int (0 : Int32)), (.int nb), (.int rb)] [] rfl rfl rfl 0 (Nat.le_of_eq rfl) (CN.pay (W := 0) A432 (m_okR l Z a0 hw a425 (2 : Int32) (4 : Int32) (0 : Int32) nb rb b425 [(46 : Int32), c0, c1, c2] 2 c1 zc O2 P5 fm O4 rG3 h425 n0 A432.old G425 (lat2 (lc (by decide) (lc r0 (lc r1 (lc r2 ln))))) (Nat.le_of_ble_eq_true rfl) rfl rfl (by decide) (by decide) (by decide) hc1) (wd hw 173 rfl) (wd hw 2 rfl) (by decide) (by decide)) (kc := 0) (ks := 0) (by decide) (by decide) all0 (fun _ => sf0) fun v433 T433 h433 L433 A433 K433 q433 => ?_
            obtain ⟨rfl, hh433⟩ := q433
            obtain rfl := hh433.symm
            show Wp pG e below _ T433 (mkF m 161 _ [(.int (1 : Int32))])
            refine f_ifN A433 at_161 ((if0 _ _).trans (feq (by decide : ¬ (1 : Int32) = (0 : Int32))).1) (pc' := 164) rfl ?_
            refine f_aload A433 at_164 (pc' := 166) rfl rfl rfl ?_
            refine f_iconst A433 at_166 (pc' := 167) rfl 3 rfl ?_
            refine f_iload A433 at_167 (pc' := 169) rfl rfl ?_
            refine f_iloadN A433 at_169 (pc' := 170) rfl rfl ?_
            refine f_iloadN A433 at_170 (pc' := 171) rfl rfl ?_
            refine f_iloadN A433 at_171 (pc' := 172) rfl rfl ?_
            refine f_callS A433 at_172 (pc' := 175) rfl (wd hw 171 rfl) (wd hw 172 rfl) (wd hw 2 rfl) (wd hw 173 rfl) (by decide) pd27 [(.ref a425), (.int (3 : Int32)), (.int (4 : Int32)), (.int (0 : Int32)), (.int nb), (.int rb)] [] rfl rfl rfl 0 (Nat.le_of_eq rfl) (CN.pay (W := 0) A433 (m_okR l Z a0 hw a425 (3 : Int32) (4 : Int32) (0 : Int32) nb rb b425 [(46 : Int32), c0, c1, c2] 3 c2 zc O2 P5 fm O4 rG3 h425 n0 A433.old G425 (lat2 (lc (by decide) (lc r0 (lc r1 (lc r2 ln))))) (Nat.le_of_ble_eq_true rfl) rfl rfl (by decide) (by decide) (by decide) hc2) (wd hw 173 rfl) (wd hw 2 rfl) (by decide) (by decide)) (kc := 0) (ks := 0) (by decide) (by decide) all0 (fun _ => sf0) fun v434 T434 h434 L434 A434 K434 q434 => ?_
            obtain ⟨rfl, hh434⟩ := q434
            obtain rfl := hh434.symm
            show Wp pG e below _ T434 (mkF m 175 _ [(.int (1 : Int32))])
            refine f_ifN A434 at_175 ((if0 _ _).trans (feq (by decide : ¬ (1 : Int32) = (0 : Int32))).1) (pc' := 178) rfl ?_
            refine f_aload A434 at_178 (pc' := 180) rfl rfl rfl ?_
            refine f_iconst A434 at_180 (pc' := 181) rfl 4 rfl ?_
            refine f_iload A434 at_181 (pc' := 183) rfl rfl ?_
            refine f_iloadN A434 at_183 (pc' := 184) rfl rfl ?_
            refine f_iloadN A434 at_184 (pc' := 185) rfl rfl ?_
            refine f_iloadN A434 at_185 (pc' := 186) rfl rfl ?_
            refine f_callS A434 at_186 (pc' := 189) rfl (wd hw 171 rfl) (wd hw 172 rfl) (wd hw 2 rfl) (wd hw 173 rfl) (by decide) pd27 [(.ref a425), (.int (4 : Int32)), (.int (4 : Int32)), (.int (0 : Int32)), (.int nb), (.int rb)] [] rfl rfl rfl 0 (Nat.le_of_eq rfl) (CN.pay (W := 0) A434 (m_okO l Z a0 hw a425 (4 : Int32) (4 : Int32) (0 : Int32) nb rb h425 n0 A434.old (by decide)) (wd hw 173 rfl) (wd hw 2 rfl) (by decide) (by decide)) (kc := 0) (ks := 0) (by decide) (by decide) all0 (fun _ => sf0) fun v435 T435 h435 L435 A435 K435 q435 => ?_
            obtain ⟨rfl, hh435⟩ := q435
            obtain rfl := hh435.symm
            show Wp pG e below _ T435 (mkF m 189 _ [(.int (1 : Int32))])
            refine f_ifN A435 at_189 ((if0 _ _).trans (feq (by decide : ¬ (1 : Int32) = (0 : Int32))).1) (pc' := 192) rfl ?_
            refine f_aload A435 at_192 (pc' := 194) rfl rfl rfl ?_
            refine f_iconst A435 at_194 (pc' := 195) rfl 5 rfl ?_
            refine f_iload A435 at_195 (pc' := 197) rfl rfl ?_
            refine f_iloadN A435 at_197 (pc' := 198) rfl rfl ?_
            refine f_iloadN A435 at_198 (pc' := 199) rfl rfl ?_
            refine f_iloadN A435 at_199 (pc' := 200) rfl rfl ?_
            refine f_callS A435 at_200 (pc' := 203) rfl (wd hw 171 rfl) (wd hw 172 rfl) (wd hw 2 rfl) (wd hw 173 rfl) (by decide) pd27 [(.ref a425), (.int (5 : Int32)), (.int (4 : Int32)), (.int (0 : Int32)), (.int nb), (.int rb)] [] rfl rfl rfl 0 (Nat.le_of_eq rfl) (CN.pay (W := 0) A435 (m_okO l Z a0 hw a425 (5 : Int32) (4 : Int32) (0 : Int32) nb rb h425 n0 A435.old (by decide)) (wd hw 173 rfl) (wd hw 2 rfl) (by decide) (by decide)) (kc := 0) (ks := 0) (by decide) (by decide) all0 (fun _ => sf0) fun v436 T436 h436 L436 A436 K436 q436 => ?_
            obtain ⟨rfl, hh436⟩ := q436
            obtain rfl := hh436.symm
            show Wp pG e below _ T436 (mkF m 203 _ [(.int (1 : Int32))])
            refine f_ifN A436 at_203 ((if0 _ _).trans (feq (by decide : ¬ (1 : Int32) = (0 : Int32))).1) (pc' := 206) rfl ?_
            refine f_aload A436 at_206 (pc' := 208) rfl rfl rfl ?_
            refine f_bipush A436 at_208 (pc' := 210) rfl 6 rfl ?_
            refine f_iload A436 at_210 (pc' := 212) rfl rfl ?_
            refine f_iloadN A436 at_212 (pc' := 213) rfl rfl ?_
            refine f_iloadN A436 at_213 (pc' := 214) rfl rfl ?_
            refine f_iloadN A436 at_214 (pc' := 215) rfl rfl ?_
            refine f_callS A436 at_215 (pc' := 218) rfl (wd hw 171 rfl) (wd hw 172 rfl) (wd hw 2 rfl) (wd hw 173 rfl) (by decide) pd27 [(.ref a425), (.int (6 : Int32)), (.int (4 : Int32)), (.int (0 : Int32)), (.int nb), (.int rb)] [] rfl rfl rfl 0 (Nat.le_of_eq rfl) (CN.pay (W := 0) A436 (m_okO l Z a0 hw a425 (6 : Int32) (4 : Int32) (0 : Int32) nb rb h425 n0 A436.old (by decide)) (wd hw 173 rfl) (wd hw 2 rfl) (by decide) (by decide)) (kc := 0) (ks := 0) (by decide) (by decide) all0 (fun _ => sf0) fun v437 T437 h437 L437 A437 K437 q437 => ?_
            obtain ⟨rfl, hh437⟩ := q437
            obtain rfl := hh437.symm
            show Wp pG e below _ T437 (mkF m 218 _ [(.int (1 : Int32))])
            refine f_ifN A437 at_218 ((if0 _ _).trans (feq (by decide : ¬ (1 : Int32) = (0 : Int32))).1) (pc' := 221) rfl ?_
            refine f_iconst A437 at_221 (pc' := 222) rfl 1 rfl ?_
            refine f_goto A437 at_222 (pc' := 226) (by decide) (by decide) ?_
            exact f_retBW A437 hEL hlk hret at_226 (by decide) (1 : Int32) (by decide) (by decide) (by decide) Q426 rfl
  · rcases hn4 with rfl | rfl | rfl | rfl
    · refine f_iloadN A0 at_0 (pc' := 1) rfl rfl ?_
      refine f_iconst A0 at_1 (pc' := 2) rfl 3 rfl ?_
      refine f_iand A0 at_2 (pc' := 3) rfl (1 : Int32) hm0 ?_
      refine f_istoreN A0 at_3 (pc' := 4) rfl (L' := #[.val (.int lens), .val (.int nb), .val (.int rb), .val (.int (1 : Int32)), .unset, .unset, .unset, .unset, .unset, .unset]) rfl ?_
      refine f_iloadN A0 at_4 (pc' := 5) rfl rfl ?_
      refine f_iconst A0 at_5 (pc' := 6) rfl 2 rfl ?_
      refine f_iushr A0 at_6 (pc' := 7) rfl ((lens.toUInt32 >>> ((2 : Int32) &&& 31).toUInt32).toInt32) rfl ?_
      refine f_iconst A0 at_7 (pc' := 8) rfl 3 rfl ?_
      refine f_iand A0 at_8 (pc' := 9) rfl (0 : Int32) hn1 ?_
      refine f_istore A0 at_9 (pc' := 11) rfl (L' := #[.val (.int lens), .val (.int nb), .val (.int rb), .val (.int (1 : Int32)), .val (.int (0 : Int32)), .unset, .unset, .unset, .unset, .unset]) rfl ?_
      refine f_iloadN A0 at_11 (pc' := 12) rfl rfl ?_
      refine f_iloadN A0 at_12 (pc' := 13) rfl rfl ?_
      refine f_callSW A0 at_13 (pc' := 16) rfl (wd hw 0 rfl) (wd hw 1 rfl) (wd hw 2 rfl) (wd hw 3 rfl) (by decide) pd25 [(.int (1 : Int32)), (.int nb)] [] rfl rfl rfl 0 (Nat.le_of_eq rfl) (CW.pay (W := 0) A0 hEL (m_str1 l Z a0 hw nb e0 e1 e2 zc O2 P5 h0 n0 A0.old hEL he0 s0 he1 s1 he2 s2) (wd hw 3 rfl) (wd hw 2 rfl) (by decide) (by decide) (fun _ q => nomatch q)) (kc := 4) (ks := 14) (by decide) (by decide) all0 fun v438 vm438 T438 h438 L438 A438 K438 C438 q438 => ?_
      have Q439 : Keep h0 h438 [] := K0.trans K438 all0
      obtain ⟨x438, t438, rfl, xg438, G438⟩ := q438
      show Wp pG e below _ T438 (mkF m 16 _ [(.ref x438)])
      refine f_astore A438 at_16 (pc' := 18) rfl rfl (L' := #[.val (.int lens), .val (.int nb), .val (.int rb), .val (.int (1 : Int32)), .val (.int (0 : Int32)), .val (.ref x438), .unset, .unset, .unset, .unset]) rfl ?_
      refine f_iload A438 at_18 (pc' := 20) rfl rfl ?_
      refine f_iloadN A438 at_20 (pc' := 21) rfl rfl ?_
      refine f_callSW A438 at_21 (pc' := 24) rfl (wd hw 0 rfl) (wd hw 1 rfl) (wd hw 2 rfl) (wd hw 3 rfl) (by decide) pd25 [(.int (0 : Int32)), (.int rb)] [] rfl rfl rfl 0 (Nat.le_of_eq rfl) (CW.pay (W := 0) A438 hEL (m_str0 l Z a0 hw rb c0 c1 c2 zc O2 P5 h438 n0 A438.old hEL hc0 r0 hc1 r1 hc2 r2) (wd hw 3 rfl) (wd hw 2 rfl) (by decide) (by decide) (fun _ q => nomatch q)) (kc := 4) (ks := 14) (by decide) (by decide) all0 fun v440 vm440 T440 h440 L440 A440 K440 C440 q440 => ?_
      have Q441 : Keep h0 h440 [] := Q439.trans K440 all0
      obtain ⟨x440, t440, rfl, xg440, G440⟩ := q440
      show Wp pG e below _ T440 (mkF m 24 _ [(.ref x440)])
      refine f_astore A440 at_24 (pc' := 26) rfl rfl (L' := #[.val (.int lens), .val (.int nb), .val (.int rb), .val (.int (1 : Int32)), .val (.int (0 : Int32)), .val (.ref x438), .val (.ref x440), .unset, .unset, .unset]) rfl ?_
      refine f_aload A440 at_26 (pc' := 28) rfl rfl rfl ?_
      refine f_aload A440 at_28 (pc' := 30) rfl rfl rfl ?_
      have c442 := (G438.keep K440 nin0 nin0)
      refine f_callSW A440 at_30 (pc' := 33) rfl (wd hw 26 rfl) (wd hw 27 rfl) (wd hw 28 rfl) (wd hw 29 rfl) (by decide) pd26 [(.ref x438), (.ref x440)] [] rfl rfl rfl 0 (Nat.le_of_eq rfl) (CW.pay (W := 0) A440 hEL (m_qn0 l Z a0 hw x438 t438 x440 t440 [e0]  zc O2 P5 h440 n0 A440.old hEL c442 G440 (lc s0 ln) (Nat.le_of_ble_eq_true rfl)  (by simp [idxD, *])) (wd hw 29 rfl) (wd hw 28 rfl) (by decide) (by decide) (fun _ q => nomatch q)) (kc := 9) (ks := 150) (by decide) (by decide) all0 fun v443 vm443 T443 h443 L443 A443 K443 C443 q443 => ?_
      have Q444 : Keep h0 h443 [] := Q441.trans K443 all0
      obtain ⟨a443, b443, rfl, ag443, G443⟩ := q443
      have G443 : Str Z h443 a443 b443 [e0, (46 : Int32)] := G443
      show Wp pG e below _ T443 (mkF m 33 _ [(.ref a443)])
      refine f_astore A443 at_33 (pc' := 35) rfl rfl (L' := #[.val (.int lens), .val (.int nb), .val (.int rb), .val (.int (1 : Int32)), .val (.int (0 : Int32)), .val (.ref x438), .val (.ref x440), .val (.ref a443), .unset, .unset]) rfl ?_
      refine f_iload A443 at_35 (pc' := 37) rfl rfl ?_
      refine f_ifY A443 at_37 ((if0 _ _).trans (flt (by decide : ¬ (0 : Int32) < (0 : Int32))).2.2.2) (pc' := 50) (by decide) (by decide) ?_
      refine f_iload A443 at_50 (pc' := 52) rfl rfl ?_
      refine f_iconst A443 at_52 (pc' := 53) rfl 1 rfl ?_
      refine f_icY A443 at_53 (flt (by decide : ¬ (1 : Int32) < (0 : Int32))).2.2.2 (pc' := 66) (by decide) (by decide) ?_
      refine f_iload A443 at_66 (pc' := 68) rfl rfl ?_
      refine f_iconst A443 at_68 (pc' := 69) rfl 2 rfl ?_
      refine f_icY A443 at_69 (flt (by decide : ¬ (2 : Int32) < (0 : Int32))).2.2.2 (pc' := 86) (by decide) (by decide) ?_
      refine f_iconst A443 at_86 (pc' := 87) rfl 0 rfl ?_
      refine f_istore A443 at_87 (pc' := 89) rfl (L' := #[.val (.int lens), .val (.int nb), .val (.int rb), .val (.int (1 : Int32)), .val (.int (0 : Int32)), .val (.ref x438), .val (.ref x440), .val (.ref a443), .val (.int (0 : Int32)), .unset]) rfl ?_
      refine f_iload A443 at_89 (pc' := 91) rfl rfl ?_
      refine f_ifY A443 at_91 ((if0 _ _).trans (teq (by decide : (0 : Int32) = (0 : Int32))).1) (pc' := 102) (by decide) (by decide) ?_
      refine f_iloadN A443 at_102 (pc' := 103) rfl rfl ?_
      refine f_iconst A443 at_103 (pc' := 104) rfl 1 rfl ?_
      refine f_iadd A443 at_104 (pc' := 105) rfl (2 : Int32) (by decide) ?_
      refine f_iload A443 at_105 (pc' := 107) rfl rfl ?_
      refine f_iadd A443 at_107 (pc' := 108) rfl (2 : Int32) (by decide) ?_
      refine f_istore A443 at_108 (pc' := 110) rfl (L' := #[.val (.int lens), .val (.int nb), .val (.int rb), .val (.int (1 : Int32)), .val (.int (0 : Int32)), .val (.ref x438), .val (.ref x440), .val (.ref a443), .val (.int (0 : Int32)), .val (.int (2 : Int32))]) rfl ?_
      refine f_aload A443 at_110 (pc' := 112) rfl rfl rfl ?_
      refine f_callV A443 (a := a443) at_112 (pc' := 115) rfl (wd hw 170 rfl) (wd hw 94 rfl) (nfS A443 (wd hw 96 rfl)) (wd hw 96 rfl) (wd hw 95 rfl) (by decide) G443.exa pd5 [] [] rfl rfl rfl 0 (Nat.le_of_eq rfl) (payLen (W := 0) A443 hw (wd hw 5 rfl) G443 O2 P5 (by decide) (by decide)) (kc := 0) (ks := 0) (by decide) (by decide) all0 (fun _ => sf0) fun v445 T445 h445 L445 A445 K445 q445 => ?_
      obtain ⟨rfl, hh445⟩ := q445
      obtain rfl := hh445.symm
      show Wp pG e below _ T445 (mkF m 115 _ [(.int (2 : Int32))])
      refine f_iload A445 at_115 (pc' := 117) rfl rfl ?_
      refine f_icY A445 at_117 (teq (by decide : (2 : Int32) = (2 : Int32))).1 (pc' := 122) (by decide) (by decide) ?_
      refine f_aload A445 at_122 (pc' := 124) rfl rfl rfl ?_
      refine f_iconst A445 at_124 (pc' := 125) rfl 0 rfl ?_
      refine f_iload A445 at_125 (pc' := 127) rfl rfl ?_
      refine f_iloadN A445 at_127 (pc' := 128) rfl rfl ?_
      refine f_iloadN A445 at_128 (pc' := 129) rfl rfl ?_
      refine f_iloadN A445 at_129 (pc' := 130) rfl rfl ?_
      refine f_callS A445 at_130 (pc' := 133) rfl (wd hw 171 rfl) (wd hw 172 rfl) (wd hw 2 rfl) (wd hw 173 rfl) (by decide) pd27 [(.ref a443), (.int (0 : Int32)), (.int (2 : Int32)), (.int (1 : Int32)), (.int nb), (.int rb)] [] rfl rfl rfl 0 (Nat.le_of_eq rfl) (CN.pay (W := 0) A445 (m_okN l Z a0 hw a443 (0 : Int32) (2 : Int32) (1 : Int32) nb rb b443 [e0, (46 : Int32)] 0 e0 zc O2 P5 fm O4 rG3 h443 n0 A445.old G443 (lat2 (lc s0 (lc (by decide) ln))) (Nat.le_of_ble_eq_true rfl) rfl rfl (by decide) (by decide) he0) (wd hw 173 rfl) (wd hw 2 rfl) (by decide) (by decide)) (kc := 0) (ks := 0) (by decide) (by decide) all0 (fun _ => sf0) fun v446 T446 h446 L446 A446 K446 q446 => ?_
      obtain ⟨rfl, hh446⟩ := q446
      obtain rfl := hh446.symm
      show Wp pG e below _ T446 (mkF m 133 _ [(.int (1 : Int32))])
      refine f_ifN A446 at_133 ((if0 _ _).trans (feq (by decide : ¬ (1 : Int32) = (0 : Int32))).1) (pc' := 136) rfl ?_
      refine f_aload A446 at_136 (pc' := 138) rfl rfl rfl ?_
      refine f_iconst A446 at_138 (pc' := 139) rfl 1 rfl ?_
      refine f_iload A446 at_139 (pc' := 141) rfl rfl ?_
      refine f_iloadN A446 at_141 (pc' := 142) rfl rfl ?_
      refine f_iloadN A446 at_142 (pc' := 143) rfl rfl ?_
      refine f_iloadN A446 at_143 (pc' := 144) rfl rfl ?_
      refine f_callS A446 at_144 (pc' := 147) rfl (wd hw 171 rfl) (wd hw 172 rfl) (wd hw 2 rfl) (wd hw 173 rfl) (by decide) pd27 [(.ref a443), (.int (1 : Int32)), (.int (2 : Int32)), (.int (1 : Int32)), (.int nb), (.int rb)] [] rfl rfl rfl 0 (Nat.le_of_eq rfl) (CN.pay (W := 0) A446 (m_okD l Z a0 hw a443 (1 : Int32) (2 : Int32) (1 : Int32) nb rb b443 [e0, (46 : Int32)] 1 (46 : Int32) zc O2 P5 fm O4 rG3 h443 n0 A446.old G443 (lat2 (lc s0 (lc (by decide) ln))) (Nat.le_of_ble_eq_true rfl) rfl rfl (by decide) rfl (by decide) rfl) (wd hw 173 rfl) (wd hw 2 rfl) (by decide) (by decide)) (kc := 0) (ks := 0) (by decide) (by decide) all0 (fun _ => sf0) fun v447 T447 h447 L447 A447 K447 q447 => ?_
      obtain ⟨rfl, hh447⟩ := q447
      obtain rfl := hh447.symm
      show Wp pG e below _ T447 (mkF m 147 _ [(.int (1 : Int32))])
      refine f_ifN A447 at_147 ((if0 _ _).trans (feq (by decide : ¬ (1 : Int32) = (0 : Int32))).1) (pc' := 150) rfl ?_
      refine f_aload A447 at_150 (pc' := 152) rfl rfl rfl ?_
      refine f_iconst A447 at_152 (pc' := 153) rfl 2 rfl ?_
      refine f_iload A447 at_153 (pc' := 155) rfl rfl ?_
      refine f_iloadN A447 at_155 (pc' := 156) rfl rfl ?_
      refine f_iloadN A447 at_156 (pc' := 157) rfl rfl ?_
      refine f_iloadN A447 at_157 (pc' := 158) rfl rfl ?_
      refine f_callS A447 at_158 (pc' := 161) rfl (wd hw 171 rfl) (wd hw 172 rfl) (wd hw 2 rfl) (wd hw 173 rfl) (by decide) pd27 [(.ref a443), (.int (2 : Int32)), (.int (2 : Int32)), (.int (1 : Int32)), (.int nb), (.int rb)] [] rfl rfl rfl 0 (Nat.le_of_eq rfl) (CN.pay (W := 0) A447 (m_okO l Z a0 hw a443 (2 : Int32) (2 : Int32) (1 : Int32) nb rb h443 n0 A447.old (by decide)) (wd hw 173 rfl) (wd hw 2 rfl) (by decide) (by decide)) (kc := 0) (ks := 0) (by decide) (by decide) all0 (fun _ => sf0) fun v448 T448 h448 L448 A448 K448 q448 => ?_
      obtain ⟨rfl, hh448⟩ := q448
      obtain rfl := hh448.symm
      show Wp pG e below _ T448 (mkF m 161 _ [(.int (1 : Int32))])
      refine f_ifN A448 at_161 ((if0 _ _).trans (feq (by decide : ¬ (1 : Int32) = (0 : Int32))).1) (pc' := 164) rfl ?_
      refine f_aload A448 at_164 (pc' := 166) rfl rfl rfl ?_
      refine f_iconst A448 at_166 (pc' := 167) rfl 3 rfl ?_
      refine f_iload A448 at_167 (pc' := 169) rfl rfl ?_
      refine f_iloadN A448 at_169 (pc' := 170) rfl rfl ?_
      refine f_iloadN A448 at_170 (pc' := 171) rfl rfl ?_
      refine f_iloadN A448 at_171 (pc' := 172) rfl rfl ?_
      refine f_callS A448 at_172 (pc' := 175) rfl (wd hw 171 rfl) (wd hw 172 rfl) (wd hw 2 rfl) (wd hw 173 rfl) (by decide) pd27 [(.ref a443), (.int (3 : Int32)), (.int (2 : Int32)), (.int (1 : Int32)), (.int nb), (.int rb)] [] rfl rfl rfl 0 (Nat.le_of_eq rfl) (CN.pay (W := 0) A448 (m_okO l Z a0 hw a443 (3 : Int32) (2 : Int32) (1 : Int32) nb rb h443 n0 A448.old (by decide)) (wd hw 173 rfl) (wd hw 2 rfl) (by decide) (by decide)) (kc := 0) (ks := 0) (by decide) (by decide) all0 (fun _ => sf0) fun v449 T449 h449 L449 A449 K449 q449 => ?_
      obtain ⟨rfl, hh449⟩ := q449
      obtain rfl := hh449.symm
      show Wp pG e below _ T449 (mkF m 175 _ [(.int (1 : Int32))])
      refine f_ifN A449 at_175 ((if0 _ _).trans (feq (by decide : ¬ (1 : Int32) = (0 : Int32))).1) (pc' := 178) rfl ?_
      refine f_aload A449 at_178 (pc' := 180) rfl rfl rfl ?_
      refine f_iconst A449 at_180 (pc' := 181) rfl 4 rfl ?_
      refine f_iload A449 at_181 (pc' := 183) rfl rfl ?_
      refine f_iloadN A449 at_183 (pc' := 184) rfl rfl ?_
      refine f_iloadN A449 at_184 (pc' := 185) rfl rfl ?_
      refine f_iloadN A449 at_185 (pc' := 186) rfl rfl ?_
      refine f_callS A449 at_186 (pc' := 189) rfl (wd hw 171 rfl) (wd hw 172 rfl) (wd hw 2 rfl) (wd hw 173 rfl) (by decide) pd27 [(.ref a443), (.int (4 : Int32)), (.int (2 : Int32)), (.int (1 : Int32)), (.int nb), (.int rb)] [] rfl rfl rfl 0 (Nat.le_of_eq rfl) (CN.pay (W := 0) A449 (m_okO l Z a0 hw a443 (4 : Int32) (2 : Int32) (1 : Int32) nb rb h443 n0 A449.old (by decide)) (wd hw 173 rfl) (wd hw 2 rfl) (by decide) (by decide)) (kc := 0) (ks := 0) (by decide) (by decide) all0 (fun _ => sf0) fun v450 T450 h450 L450 A450 K450 q450 => ?_
      obtain ⟨rfl, hh450⟩ := q450
      obtain rfl := hh450.symm
      show Wp pG e below _ T450 (mkF m 189 _ [(.int (1 : Int32))])
      refine f_ifN A450 at_189 ((if0 _ _).trans (feq (by decide : ¬ (1 : Int32) = (0 : Int32))).1) (pc' := 192) rfl ?_
      refine f_aload A450 at_192 (pc' := 194) rfl rfl rfl ?_
      refine f_iconst A450 at_194 (pc' := 195) rfl 5 rfl ?_
      refine f_iload A450 at_195 (pc' := 197) rfl rfl ?_
      refine f_iloadN A450 at_197 (pc' := 198) rfl rfl ?_
      refine f_iloadN A450 at_198 (pc' := 199) rfl rfl ?_
      refine f_iloadN A450 at_199 (pc' := 200) rfl rfl ?_
      refine f_callS A450 at_200 (pc' := 203) rfl (wd hw 171 rfl) (wd hw 172 rfl) (wd hw 2 rfl) (wd hw 173 rfl) (by decide) pd27 [(.ref a443), (.int (5 : Int32)), (.int (2 : Int32)), (.int (1 : Int32)), (.int nb), (.int rb)] [] rfl rfl rfl 0 (Nat.le_of_eq rfl) (CN.pay (W := 0) A450 (m_okO l Z a0 hw a443 (5 : Int32) (2 : Int32) (1 : Int32) nb rb h443 n0 A450.old (by decide)) (wd hw 173 rfl) (wd hw 2 rfl) (by decide) (by decide)) (kc := 0) (ks := 0) (by decide) (by decide) all0 (fun _ => sf0) fun v451 T451 h451 L451 A451 K451 q451 => ?_
      obtain ⟨rfl, hh451⟩ := q451
      obtain rfl := hh451.symm
      show Wp pG e below _ T451 (mkF m 203 _ [(.int (1 : Int32))])
      refine f_ifN A451 at_203 ((if0 _ _).trans (feq (by decide : ¬ (1 : Int32) = (0 : Int32))).1) (pc' := 206) rfl ?_
      refine f_aload A451 at_206 (pc' := 208) rfl rfl rfl ?_
      refine f_bipush A451 at_208 (pc' := 210) rfl 6 rfl ?_
      refine f_iload A451 at_210 (pc' := 212) rfl rfl ?_
      refine f_iloadN A451 at_212 (pc' := 213) rfl rfl ?_
      refine f_iloadN A451 at_213 (pc' := 214) rfl rfl ?_
      refine f_iloadN A451 at_214 (pc' := 215) rfl rfl ?_
      refine f_callS A451 at_215 (pc' := 218) rfl (wd hw 171 rfl) (wd hw 172 rfl) (wd hw 2 rfl) (wd hw 173 rfl) (by decide) pd27 [(.ref a443), (.int (6 : Int32)), (.int (2 : Int32)), (.int (1 : Int32)), (.int nb), (.int rb)] [] rfl rfl rfl 0 (Nat.le_of_eq rfl) (CN.pay (W := 0) A451 (m_okO l Z a0 hw a443 (6 : Int32) (2 : Int32) (1 : Int32) nb rb h443 n0 A451.old (by decide)) (wd hw 173 rfl) (wd hw 2 rfl) (by decide) (by decide)) (kc := 0) (ks := 0) (by decide) (by decide) all0 (fun _ => sf0) fun v452 T452 h452 L452 A452 K452 q452 => ?_
      obtain ⟨rfl, hh452⟩ := q452
      obtain rfl := hh452.symm
      show Wp pG e below _ T452 (mkF m 218 _ [(.int (1 : Int32))])
      refine f_ifN A452 at_218 ((if0 _ _).trans (feq (by decide : ¬ (1 : Int32) = (0 : Int32))).1) (pc' := 221) rfl ?_
      refine f_iconst A452 at_221 (pc' := 222) rfl 1 rfl ?_
      refine f_goto A452 at_222 (pc' := 226) (by decide) (by decide) ?_
      exact f_retBW A452 hEL hlk hret at_226 (by decide) (1 : Int32) (by decide) (by decide) (by decide) Q444 rfl
    · refine f_iloadN A0 at_0 (pc' := 1) rfl rfl ?_
      refine f_iconst A0 at_1 (pc' := 2) rfl 3 rfl ?_
      refine f_iand A0 at_2 (pc' := 3) rfl (1 : Int32) hm0 ?_
      refine f_istoreN A0 at_3 (pc' := 4) rfl (L' := #[.val (.int lens), .val (.int nb), .val (.int rb), .val (.int (1 : Int32)), .unset, .unset, .unset, .unset, .unset, .unset]) rfl ?_
      refine f_iloadN A0 at_4 (pc' := 5) rfl rfl ?_
      refine f_iconst A0 at_5 (pc' := 6) rfl 2 rfl ?_
      refine f_iushr A0 at_6 (pc' := 7) rfl ((lens.toUInt32 >>> ((2 : Int32) &&& 31).toUInt32).toInt32) rfl ?_
      refine f_iconst A0 at_7 (pc' := 8) rfl 3 rfl ?_
      refine f_iand A0 at_8 (pc' := 9) rfl (1 : Int32) hn1 ?_
      refine f_istore A0 at_9 (pc' := 11) rfl (L' := #[.val (.int lens), .val (.int nb), .val (.int rb), .val (.int (1 : Int32)), .val (.int (1 : Int32)), .unset, .unset, .unset, .unset, .unset]) rfl ?_
      refine f_iloadN A0 at_11 (pc' := 12) rfl rfl ?_
      refine f_iloadN A0 at_12 (pc' := 13) rfl rfl ?_
      refine f_callSW A0 at_13 (pc' := 16) rfl (wd hw 0 rfl) (wd hw 1 rfl) (wd hw 2 rfl) (wd hw 3 rfl) (by decide) pd25 [(.int (1 : Int32)), (.int nb)] [] rfl rfl rfl 0 (Nat.le_of_eq rfl) (CW.pay (W := 0) A0 hEL (m_str1 l Z a0 hw nb e0 e1 e2 zc O2 P5 h0 n0 A0.old hEL he0 s0 he1 s1 he2 s2) (wd hw 3 rfl) (wd hw 2 rfl) (by decide) (by decide) (fun _ q => nomatch q)) (kc := 4) (ks := 14) (by decide) (by decide) all0 fun v453 vm453 T453 h453 L453 A453 K453 C453 q453 => ?_
      have Q454 : Keep h0 h453 [] := K0.trans K453 all0
      obtain ⟨x453, t453, rfl, xg453, G453⟩ := q453
      show Wp pG e below _ T453 (mkF m 16 _ [(.ref x453)])
      refine f_astore A453 at_16 (pc' := 18) rfl rfl (L' := #[.val (.int lens), .val (.int nb), .val (.int rb), .val (.int (1 : Int32)), .val (.int (1 : Int32)), .val (.ref x453), .unset, .unset, .unset, .unset]) rfl ?_
      refine f_iload A453 at_18 (pc' := 20) rfl rfl ?_
      refine f_iloadN A453 at_20 (pc' := 21) rfl rfl ?_
      refine f_callSW A453 at_21 (pc' := 24) rfl (wd hw 0 rfl) (wd hw 1 rfl) (wd hw 2 rfl) (wd hw 3 rfl) (by decide) pd25 [(.int (1 : Int32)), (.int rb)] [] rfl rfl rfl 0 (Nat.le_of_eq rfl) (CW.pay (W := 0) A453 hEL (m_str1 l Z a0 hw rb c0 c1 c2 zc O2 P5 h453 n0 A453.old hEL hc0 r0 hc1 r1 hc2 r2) (wd hw 3 rfl) (wd hw 2 rfl) (by decide) (by decide) (fun _ q => nomatch q)) (kc := 4) (ks := 14) (by decide) (by decide) all0 fun v455 vm455 T455 h455 L455 A455 K455 C455 q455 => ?_
      have Q456 : Keep h0 h455 [] := Q454.trans K455 all0
      obtain ⟨x455, t455, rfl, xg455, G455⟩ := q455
      show Wp pG e below _ T455 (mkF m 24 _ [(.ref x455)])
      refine f_astore A455 at_24 (pc' := 26) rfl rfl (L' := #[.val (.int lens), .val (.int nb), .val (.int rb), .val (.int (1 : Int32)), .val (.int (1 : Int32)), .val (.ref x453), .val (.ref x455), .unset, .unset, .unset]) rfl ?_
      by_cases q0 : c0 = 46
      · refine f_aload A455 at_26 (pc' := 28) rfl rfl rfl ?_
        refine f_aload A455 at_28 (pc' := 30) rfl rfl rfl ?_
        refine f_callSW A455 at_30 (pc' := 33) rfl (wd hw 26 rfl) (wd hw 27 rfl) (wd hw 28 rfl) (wd hw 29 rfl) (by decide) pd26 [(.ref x453), (.ref x455)] [] rfl rfl rfl 0 (Nat.le_of_eq rfl) (CW.pay (W := 0) A455 hEL (m_qd1 l Z a0 hw x453 x455 t455 c0 zc O2 P5 h455 n0 A455.old hEL G455 r0 (by simp [idxD, *])) (wd hw 29 rfl) (wd hw 28 rfl) (by decide) (by decide) (fun _ q => nomatch q)) (kc := 2) (ks := 8) (by decide) (by decide) all0 fun v457 vm457 T457 h457 L457 A457 K457 C457 q457 => ?_
        have Q458 : Keep h0 h457 [] := Q456.trans K457 all0
        obtain rfl := q457
        show Wp pG e below _ T457 (mkF m 33 _ [(.ref x455)])
        refine f_astore A457 at_33 (pc' := 35) rfl rfl (L' := #[.val (.int lens), .val (.int nb), .val (.int rb), .val (.int (1 : Int32)), .val (.int (1 : Int32)), .val (.ref x453), .val (.ref x455), .val (.ref x455), .unset, .unset]) rfl ?_
        refine f_iload A457 at_35 (pc' := 37) rfl rfl ?_
        refine f_ifN A457 at_37 ((if0 _ _).trans (tlt (by decide : (0 : Int32) < (1 : Int32))).2.2.2) (pc' := 40) rfl ?_
        refine f_iloadN A457 at_40 (pc' := 41) rfl rfl ?_
        refine f_iconst A457 at_41 (pc' := 42) rfl 0 rfl ?_
        refine f_callS A457 at_42 (pc' := 45) rfl (wd hw 190 rfl) (wd hw 191 rfl) (wd hw 2 rfl) (wd hw 192 rfl) (by decide) pd16 [(.int rb), (.int (0 : Int32))] [] rfl rfl rfl 0 (Nat.le_of_eq rfl) (CN.pay (W := 0) A457 (m_ch l Z a0 hw rb (0 : Int32) c0 h457 n0 A457.old hc0) (wd hw 192 rfl) (wd hw 2 rfl) (by decide) (by decide)) (kc := 0) (ks := 0) (by decide) (by decide) all0 (fun _ => sf0) fun v459 T459 h459 L459 A459 K459 q459 => ?_
        obtain ⟨rfl, hh459⟩ := q459
        obtain rfl := hh459.symm
        show Wp pG e below _ T459 (mkF m 45 _ [(.int c0)])
        refine f_bipush A459 at_45 (pc' := 47) rfl 46 rfl ?_
        refine f_icY A459 at_47 (teq q0).1 (pc' := 82) (by decide) (by decide) ?_
        refine f_iconst A459 at_82 (pc' := 83) rfl 1 rfl ?_
        refine f_goto A459 at_83 (pc' := 87) (by decide) (by decide) ?_
        refine f_istore A459 at_87 (pc' := 89) rfl (L' := #[.val (.int lens), .val (.int nb), .val (.int rb), .val (.int (1 : Int32)), .val (.int (1 : Int32)), .val (.ref x453), .val (.ref x455), .val (.ref x455), .val (.int (1 : Int32)), .unset]) rfl ?_
        refine f_iload A459 at_89 (pc' := 91) rfl rfl ?_
        refine f_ifN A459 at_91 ((if0 _ _).trans (feq (by decide : ¬ (1 : Int32) = (0 : Int32))).1) (pc' := 94) rfl ?_
        refine f_aload A459 at_94 (pc' := 96) rfl rfl rfl ?_
        refine f_aload A459 at_96 (pc' := 98) rfl rfl rfl ?_
        have c461 := (G455.exa.keep K457)
        refine f_callV A459 (a := x455) at_98 (pc' := 101) rfl (wd hw 206 rfl) (wd hw 207 rfl) (nfS A459 (wd hw 209 rfl)) (wd hw 209 rfl) (wd hw 208 rfl) (by decide) c461 pd28 [(.ref x455)] [] rfl rfl rfl 0 (Nat.le_of_eq rfl) (CN.pay (W := 0) A459 (m_eqself l Z a0 hw x455 h457 n0 A459.old) (wd hw 210 rfl) (wd hw 6 rfl) (by decide) (by decide)) (kc := 0) (ks := 0) (by decide) (by decide) all0 (fun _ => sf0) fun v460 T460 h460 L460 A460 K460 q460 => ?_
        obtain ⟨rfl, hh460⟩ := q460
        obtain rfl := hh460.symm
        show Wp pG e below _ T460 (mkF m 101 _ [(.int (1 : Int32))])
        exact f_retBW A460 hEL hlk hret at_101 (by decide) (1 : Int32) (by decide) (by decide) (by decide) Q458 rfl
      · refine f_aload A455 at_26 (pc' := 28) rfl rfl rfl ?_
        refine f_aload A455 at_28 (pc' := 30) rfl rfl rfl ?_
        have c462 := (G453.keep K455 nin0 nin0)
        refine f_callSW A455 at_30 (pc' := 33) rfl (wd hw 26 rfl) (wd hw 27 rfl) (wd hw 28 rfl) (wd hw 29 rfl) (by decide) pd26 [(.ref x453), (.ref x455)] [] rfl rfl rfl 0 (Nat.le_of_eq rfl) (CW.pay (W := 0) A455 hEL (m_qn1 l Z a0 hw x453 t453 x455 t455 [e0] c0 zc O2 P5 h455 n0 A455.old hEL c462 G455 (lc s0 ln) (Nat.le_of_ble_eq_true rfl) r0 (by simp [idxD, *])) (wd hw 29 rfl) (wd hw 28 rfl) (by decide) (by decide) (fun _ q => nomatch q)) (kc := 9) (ks := 150) (by decide) (by decide) all0 fun v463 vm463 T463 h463 L463 A463 K463 C463 q463 => ?_
        have Q464 : Keep h0 h463 [] := Q456.trans K463 all0
        obtain ⟨a463, b463, rfl, ag463, G463⟩ := q463
        have G463 : Str Z h463 a463 b463 [e0, (46 : Int32), c0] := G463
        show Wp pG e below _ T463 (mkF m 33 _ [(.ref a463)])
        refine f_astore A463 at_33 (pc' := 35) rfl rfl (L' := #[.val (.int lens), .val (.int nb), .val (.int rb), .val (.int (1 : Int32)), .val (.int (1 : Int32)), .val (.ref x453), .val (.ref x455), .val (.ref a463), .unset, .unset]) rfl ?_
        refine f_iload A463 at_35 (pc' := 37) rfl rfl ?_
        refine f_ifN A463 at_37 ((if0 _ _).trans (tlt (by decide : (0 : Int32) < (1 : Int32))).2.2.2) (pc' := 40) rfl ?_
        refine f_iloadN A463 at_40 (pc' := 41) rfl rfl ?_
        refine f_iconst A463 at_41 (pc' := 42) rfl 0 rfl ?_
        refine f_callS A463 at_42 (pc' := 45) rfl (wd hw 190 rfl) (wd hw 191 rfl) (wd hw 2 rfl) (wd hw 192 rfl) (by decide) pd16 [(.int rb), (.int (0 : Int32))] [] rfl rfl rfl 0 (Nat.le_of_eq rfl) (CN.pay (W := 0) A463 (m_ch l Z a0 hw rb (0 : Int32) c0 h463 n0 A463.old hc0) (wd hw 192 rfl) (wd hw 2 rfl) (by decide) (by decide)) (kc := 0) (ks := 0) (by decide) (by decide) all0 (fun _ => sf0) fun v465 T465 h465 L465 A465 K465 q465 => ?_
        obtain ⟨rfl, hh465⟩ := q465
        obtain rfl := hh465.symm
        show Wp pG e below _ T465 (mkF m 45 _ [(.int c0)])
        refine f_bipush A465 at_45 (pc' := 47) rfl 46 rfl ?_
        refine f_icN A465 at_47 (feq q0).1 (pc' := 50) rfl ?_
        refine f_iload A465 at_50 (pc' := 52) rfl rfl ?_
        refine f_iconst A465 at_52 (pc' := 53) rfl 1 rfl ?_
        refine f_icY A465 at_53 (flt (by decide : ¬ (1 : Int32) < (1 : Int32))).2.2.2 (pc' := 66) (by decide) (by decide) ?_
        refine f_iload A465 at_66 (pc' := 68) rfl rfl ?_
        refine f_iconst A465 at_68 (pc' := 69) rfl 2 rfl ?_
        refine f_icY A465 at_69 (flt (by decide : ¬ (2 : Int32) < (1 : Int32))).2.2.2 (pc' := 86) (by decide) (by decide) ?_
        refine f_iconst A465 at_86 (pc' := 87) rfl 0 rfl ?_
        refine f_istore A465 at_87 (pc' := 89) rfl (L' := #[.val (.int lens), .val (.int nb), .val (.int rb), .val (.int (1 : Int32)), .val (.int (1 : Int32)), .val (.ref x453), .val (.ref x455), .val (.ref a463), .val (.int (0 : Int32)), .unset]) rfl ?_
        refine f_iload A465 at_89 (pc' := 91) rfl rfl ?_
        refine f_ifY A465 at_91 ((if0 _ _).trans (teq (by decide : (0 : Int32) = (0 : Int32))).1) (pc' := 102) (by decide) (by decide) ?_
        refine f_iloadN A465 at_102 (pc' := 103) rfl rfl ?_
        refine f_iconst A465 at_103 (pc' := 104) rfl 1 rfl ?_
        refine f_iadd A465 at_104 (pc' := 105) rfl (2 : Int32) (by decide) ?_
        refine f_iload A465 at_105 (pc' := 107) rfl rfl ?_
        refine f_iadd A465 at_107 (pc' := 108) rfl (3 : Int32) (by decide) ?_
        refine f_istore A465 at_108 (pc' := 110) rfl (L' := #[.val (.int lens), .val (.int nb), .val (.int rb), .val (.int (1 : Int32)), .val (.int (1 : Int32)), .val (.ref x453), .val (.ref x455), .val (.ref a463), .val (.int (0 : Int32)), .val (.int (3 : Int32))]) rfl ?_
        refine f_aload A465 at_110 (pc' := 112) rfl rfl rfl ?_
        refine f_callV A465 (a := a463) at_112 (pc' := 115) rfl (wd hw 170 rfl) (wd hw 94 rfl) (nfS A465 (wd hw 96 rfl)) (wd hw 96 rfl) (wd hw 95 rfl) (by decide) G463.exa pd5 [] [] rfl rfl rfl 0 (Nat.le_of_eq rfl) (payLen (W := 0) A465 hw (wd hw 5 rfl) G463 O2 P5 (by decide) (by decide)) (kc := 0) (ks := 0) (by decide) (by decide) all0 (fun _ => sf0) fun v466 T466 h466 L466 A466 K466 q466 => ?_
        obtain ⟨rfl, hh466⟩ := q466
        obtain rfl := hh466.symm
        show Wp pG e below _ T466 (mkF m 115 _ [(.int (3 : Int32))])
        refine f_iload A466 at_115 (pc' := 117) rfl rfl ?_
        refine f_icY A466 at_117 (teq (by decide : (3 : Int32) = (3 : Int32))).1 (pc' := 122) (by decide) (by decide) ?_
        refine f_aload A466 at_122 (pc' := 124) rfl rfl rfl ?_
        refine f_iconst A466 at_124 (pc' := 125) rfl 0 rfl ?_
        refine f_iload A466 at_125 (pc' := 127) rfl rfl ?_
        refine f_iloadN A466 at_127 (pc' := 128) rfl rfl ?_
        refine f_iloadN A466 at_128 (pc' := 129) rfl rfl ?_
        refine f_iloadN A466 at_129 (pc' := 130) rfl rfl ?_
        refine f_callS A466 at_130 (pc' := 133) rfl (wd hw 171 rfl) (wd hw 172 rfl) (wd hw 2 rfl) (wd hw 173 rfl) (by decide) pd27 [(.ref a463), (.int (0 : Int32)), (.int (3 : Int32)), (.int (1 : Int32)), (.int nb), (.int rb)] [] rfl rfl rfl 0 (Nat.le_of_eq rfl) (CN.pay (W := 0) A466 (m_okN l Z a0 hw a463 (0 : Int32) (3 : Int32) (1 : Int32) nb rb b463 [e0, (46 : Int32), c0] 0 e0 zc O2 P5 fm O4 rG3 h463 n0 A466.old G463 (lat2 (lc s0 (lc (by decide) (lc r0 ln)))) (Nat.le_of_ble_eq_true rfl) rfl rfl (by decide) (by decide) he0) (wd hw 173 rfl) (wd hw 2 rfl) (by decide) (by decide)) (kc := 0) (ks := 0) (by decide) (by decide) all0 (fun _ => sf0) fun v467 T467 h467 L467 A467 K467 q467 => ?_
        obtain ⟨rfl, hh467⟩ := q467
        obtain rfl := hh467.symm
        show Wp pG e below _ T467 (mkF m 133 _ [(.int (1 : Int32))])
        refine f_ifN A467 at_133 ((if0 _ _).trans (feq (by decide : ¬ (1 : Int32) = (0 : Int32))).1) (pc' := 136) rfl ?_
        refine f_aload A467 at_136 (pc' := 138) rfl rfl rfl ?_
        refine f_iconst A467 at_138 (pc' := 139) rfl 1 rfl ?_
        refine f_iload A467 at_139 (pc' := 141) rfl rfl ?_
        refine f_iloadN A467 at_141 (pc' := 142) rfl rfl ?_
        refine f_iloadN A467 at_142 (pc' := 143) rfl rfl ?_
        refine f_iloadN A467 at_143 (pc' := 144) rfl rfl ?_
        refine f_callS A467 at_144 (pc' := 147) rfl (wd hw 171 rfl) (wd hw 172 rfl) (wd hw 2 rfl) (wd hw 173 rfl) (by decide) pd27 [(.ref a463), (.int (1 : Int32)), (.int (3 : Int32)), (.int (1 : Int32)), (.int nb), (.int rb)] [] rfl rfl rfl 0 (Nat.le_of_eq rfl) (CN.pay (W := 0) A467 (m_okD l Z a0 hw a463 (1 : Int32) (3 : Int32) (1 : Int32) nb rb b463 [e0, (46 : Int32), c0] 1 (46 : Int32) zc O2 P5 fm O4 rG3 h463 n0 A467.old G463 (lat2 (lc s0 (lc (by decide) (lc r0 ln)))) (Nat.le_of_ble_eq_true rfl) rfl rfl (by decide) rfl (by decide) rfl) (wd hw 173 rfl) (wd hw 2 rfl) (by decide) (by decide)) (kc := 0) (ks := 0) (by decide) (by decide) all0 (fun _ => sf0) fun v468 T468 h468 L468 A468 K468 q468 => ?_
        obtain ⟨rfl, hh468⟩ := q468
        obtain rfl := hh468.symm
        show Wp pG e below _ T468 (mkF m 147 _ [(.int (1 : Int32))])
        refine f_ifN A468 at_147 ((if0 _ _).trans (feq (by decide : ¬ (1 : Int32) = (0 : Int32))).1) (pc' := 150) rfl ?_
        refine f_aload A468 at_150 (pc' := 152) rfl rfl rfl ?_
        refine f_iconst A468 at_152 (pc' := 153) rfl 2 rfl ?_
        refine f_iload A468 at_153 (pc' := 155) rfl rfl ?_
        refine f_iloadN A468 at_155 (pc' := 156) rfl rfl ?_
        refine f_iloadN A468 at_156 (pc' := 157) rfl rfl ?_
        refine f_iloadN A468 at_157 (pc' := 158) rfl rfl ?_
        refine f_callS A468 at_158 (pc' := 161) rfl (wd hw 171 rfl) (wd hw 172 rfl) (wd hw 2 rfl) (wd hw 173 rfl) (by decide) pd27 [(.ref a463), (.int (2 : Int32)), (.int (3 : Int32)), (.int (1 : Int32)), (.int nb), (.int rb)] [] rfl rfl rfl 0 (Nat.le_of_eq rfl) (CN.pay (W := 0) A468 (m_okR l Z a0 hw a463 (2 : Int32) (3 : Int32) (1 : Int32) nb rb b463 [e0, (46 : Int32), c0] 2 c0 zc O2 P5 fm O4 rG3 h463 n0 A468.old G463 (lat2 (lc s0 (lc (by decide) (lc r0 ln)))) (Nat.le_of_ble_eq_true rfl) rfl rfl (by decide) (by decide) (by decide) hc0) (wd hw 173 rfl) (wd hw 2 rfl) (by decide) (by decide)) (kc := 0) (ks := 0) (by decide) (by decide) all0 (fun _ => sf0) fun v469 T469 h469 L469 A469 K469 q469 => ?_
        obtain ⟨rfl, hh469⟩ := q469
        obtain rfl := hh469.symm
        show Wp pG e below _ T469 (mkF m 161 _ [(.int (1 : Int32))])
        refine f_ifN A469 at_161 ((if0 _ _).trans (feq (by decide : ¬ (1 : Int32) = (0 : Int32))).1) (pc' := 164) rfl ?_
        refine f_aload A469 at_164 (pc' := 166) rfl rfl rfl ?_
        refine f_iconst A469 at_166 (pc' := 167) rfl 3 rfl ?_
        refine f_iload A469 at_167 (pc' := 169) rfl rfl ?_
        refine f_iloadN A469 at_169 (pc' := 170) rfl rfl ?_
        refine f_iloadN A469 at_170 (pc' := 171) rfl rfl ?_
        refine f_iloadN A469 at_171 (pc' := 172) rfl rfl ?_
        refine f_callS A469 at_172 (pc' := 175) rfl (wd hw 171 rfl) (wd hw 172 rfl) (wd hw 2 rfl) (wd hw 173 rfl) (by decide) pd27 [(.ref a463), (.int (3 : Int32)), (.int (3 : Int32)), (.int (1 : Int32)), (.int nb), (.int rb)] [] rfl rfl rfl 0 (Nat.le_of_eq rfl) (CN.pay (W := 0) A469 (m_okO l Z a0 hw a463 (3 : Int32) (3 : Int32) (1 : Int32) nb rb h463 n0 A469.old (by decide)) (wd hw 173 rfl) (wd hw 2 rfl) (by decide) (by decide)) (kc := 0) (ks := 0) (by decide) (by decide) all0 (fun _ => sf0) fun v470 T470 h470 L470 A470 K470 q470 => ?_
        obtain ⟨rfl, hh470⟩ := q470
        obtain rfl := hh470.symm
        show Wp pG e below _ T470 (mkF m 175 _ [(.int (1 : Int32))])
        refine f_ifN A470 at_175 ((if0 _ _).trans (feq (by decide : ¬ (1 : Int32) = (0 : Int32))).1) (pc' := 178) rfl ?_
        refine f_aload A470 at_178 (pc' := 180) rfl rfl rfl ?_
        refine f_iconst A470 at_180 (pc' := 181) rfl 4 rfl ?_
        refine f_iload A470 at_181 (pc' := 183) rfl rfl ?_
        refine f_iloadN A470 at_183 (pc' := 184) rfl rfl ?_
        refine f_iloadN A470 at_184 (pc' := 185) rfl rfl ?_
        refine f_iloadN A470 at_185 (pc' := 186) rfl rfl ?_
        refine f_callS A470 at_186 (pc' := 189) rfl (wd hw 171 rfl) (wd hw 172 rfl) (wd hw 2 rfl) (wd hw 173 rfl) (by decide) pd27 [(.ref a463), (.int (4 : Int32)), (.int (3 : Int32)), (.int (1 : Int32)), (.int nb), (.int rb)] [] rfl rfl rfl 0 (Nat.le_of_eq rfl) (CN.pay (W := 0) A470 (m_okO l Z a0 hw a463 (4 : Int32) (3 : Int32) (1 : Int32) nb rb h463 n0 A470.old (by decide)) (wd hw 173 rfl) (wd hw 2 rfl) (by decide) (by decide)) (kc := 0) (ks := 0) (by decide) (by decide) all0 (fun _ => sf0) fun v471 T471 h471 L471 A471 K471 q471 => ?_
        obtain ⟨rfl, hh471⟩ := q471
        obtain rfl := hh471.symm
        show Wp pG e below _ T471 (mkF m 189 _ [(.int (1 : Int32))])
        refine f_ifN A471 at_189 ((if0 _ _).trans (feq (by decide : ¬ (1 : Int32) = (0 : Int32))).1) (pc' := 192) rfl ?_
        refine f_aload A471 at_192 (pc' := 194) rfl rfl rfl ?_
        refine f_iconst A471 at_194 (pc' := 195) rfl 5 rfl ?_
        refine f_iload A471 at_195 (pc' := 197) rfl rfl ?_
        refine f_iloadN A471 at_197 (pc' := 198) rfl rfl ?_
        refine f_iloadN A471 at_198 (pc' := 199) rfl rfl ?_
        refine f_iloadN A471 at_199 (pc' := 200) rfl rfl ?_
        refine f_callS A471 at_200 (pc' := 203) rfl (wd hw 171 rfl) (wd hw 172 rfl) (wd hw 2 rfl) (wd hw 173 rfl) (by decide) pd27 [(.ref a463), (.int (5 : Int32)), (.int (3 : Int32)), (.int (1 : Int32)), (.int nb), (.int rb)] [] rfl rfl rfl 0 (Nat.le_of_eq rfl) (CN.pay (W := 0) A471 (m_okO l Z a0 hw a463 (5 : Int32) (3 : Int32) (1 : Int32) nb rb h463 n0 A471.old (by decide)) (wd hw 173 rfl) (wd hw 2 rfl) (by decide) (by decide)) (kc := 0) (ks := 0) (by decide) (by decide) all0 (fun _ => sf0) fun v472 T472 h472 L472 A472 K472 q472 => ?_
        obtain ⟨rfl, hh472⟩ := q472
        obtain rfl := hh472.symm
        show Wp pG e below _ T472 (mkF m 203 _ [(.int (1 : Int32))])
        refine f_ifN A472 at_203 ((if0 _ _).trans (feq (by decide : ¬ (1 : Int32) = (0 : Int32))).1) (pc' := 206) rfl ?_
        refine f_aload A472 at_206 (pc' := 208) rfl rfl rfl ?_
        refine f_bipush A472 at_208 (pc' := 210) rfl 6 rfl ?_
        refine f_iload A472 at_210 (pc' := 212) rfl rfl ?_
        refine f_iloadN A472 at_212 (pc' := 213) rfl rfl ?_
        refine f_iloadN A472 at_213 (pc' := 214) rfl rfl ?_
        refine f_iloadN A472 at_214 (pc' := 215) rfl rfl ?_
        refine f_callS A472 at_215 (pc' := 218) rfl (wd hw 171 rfl) (wd hw 172 rfl) (wd hw 2 rfl) (wd hw 173 rfl) (by decide) pd27 [(.ref a463), (.int (6 : Int32)), (.int (3 : Int32)), (.int (1 : Int32)), (.int nb), (.int rb)] [] rfl rfl rfl 0 (Nat.le_of_eq rfl) (CN.pay (W := 0) A472 (m_okO l Z a0 hw a463 (6 : Int32) (3 : Int32) (1 : Int32) nb rb h463 n0 A472.old (by decide)) (wd hw 173 rfl) (wd hw 2 rfl) (by decide) (by decide)) (kc := 0) (ks := 0) (by decide) (by decide) all0 (fun _ => sf0) fun v473 T473 h473 L473 A473 K473 q473 => ?_
        obtain ⟨rfl, hh473⟩ := q473
        obtain rfl := hh473.symm
        show Wp pG e below _ T473 (mkF m 218 _ [(.int (1 : Int32))])
        refine f_ifN A473 at_218 ((if0 _ _).trans (feq (by decide : ¬ (1 : Int32) = (0 : Int32))).1) (pc' := 221) rfl ?_
        refine f_iconst A473 at_221 (pc' := 222) rfl 1 rfl ?_
        refine f_goto A473 at_222 (pc' := 226) (by decide) (by decide) ?_
        exact f_retBW A473 hEL hlk hret at_226 (by decide) (1 : Int32) (by decide) (by decide) (by decide) Q464 rfl
    · refine f_iloadN A0 at_0 (pc' := 1) rfl rfl ?_
      refine f_iconst A0 at_1 (pc' := 2) rfl 3 rfl ?_
      refine f_iand A0 at_2 (pc' := 3) rfl (1 : Int32) hm0 ?_
      refine f_istoreN A0 at_3 (pc' := 4) rfl (L' := #[.val (.int lens), .val (.int nb), .val (.int rb), .val (.int (1 : Int32)), .unset, .unset, .unset, .unset, .unset, .unset]) rfl ?_
      refine f_iloadN A0 at_4 (pc' := 5) rfl rfl ?_
      refine f_iconst A0 at_5 (pc' := 6) rfl 2 rfl ?_
      refine f_iushr A0 at_6 (pc' := 7) rfl ((lens.toUInt32 >>> ((2 : Int32) &&& 31).toUInt32).toInt32) rfl ?_
      refine f_iconst A0 at_7 (pc' := 8) rfl 3 rfl ?_
      refine f_iand A0 at_8 (pc' := 9) rfl (2 : Int32) hn1 ?_
      refine f_istore A0 at_9 (pc' := 11) rfl (L' := #[.val (.int lens), .val (.int nb), .val (.int rb), .val (.int (1 : Int32)), .val (.int (2 : Int32)), .unset, .unset, .unset, .unset, .unset]) rfl ?_
      refine f_iloadN A0 at_11 (pc' := 12) rfl rfl ?_
      refine f_iloadN A0 at_12 (pc' := 13) rfl rfl ?_
      refine f_callSW A0 at_13 (pc' := 16) rfl (wd hw 0 rfl) (wd hw 1 rfl) (wd hw 2 rfl) (wd hw 3 rfl) (by decide) pd25 [(.int (1 : Int32)), (.int nb)] [] rfl rfl rfl 0 (Nat.le_of_eq rfl) (CW.pay (W := 0) A0 hEL (m_str1 l Z a0 hw nb e0 e1 e2 zc O2 P5 h0 n0 A0.old hEL he0 s0 he1 s1 he2 s2) (wd hw 3 rfl) (wd hw 2 rfl) (by decide) (by decide) (fun _ q => nomatch q)) (kc := 4) (ks := 14) (by decide) (by decide) all0 fun v474 vm474 T474 h474 L474 A474 K474 C474 q474 => ?_
      have Q475 : Keep h0 h474 [] := K0.trans K474 all0
      obtain ⟨x474, t474, rfl, xg474, G474⟩ := q474
      show Wp pG e below _ T474 (mkF m 16 _ [(.ref x474)])
      refine f_astore A474 at_16 (pc' := 18) rfl rfl (L' := #[.val (.int lens), .val (.int nb), .val (.int rb), .val (.int (1 : Int32)), .val (.int (2 : Int32)), .val (.ref x474), .unset, .unset, .unset, .unset]) rfl ?_
      refine f_iload A474 at_18 (pc' := 20) rfl rfl ?_
      refine f_iloadN A474 at_20 (pc' := 21) rfl rfl ?_
      refine f_callSW A474 at_21 (pc' := 24) rfl (wd hw 0 rfl) (wd hw 1 rfl) (wd hw 2 rfl) (wd hw 3 rfl) (by decide) pd25 [(.int (2 : Int32)), (.int rb)] [] rfl rfl rfl 0 (Nat.le_of_eq rfl) (CW.pay (W := 0) A474 hEL (m_str2 l Z a0 hw rb c0 c1 c2 zc O2 P5 h474 n0 A474.old hEL hc0 r0 hc1 r1 hc2 r2) (wd hw 3 rfl) (wd hw 2 rfl) (by decide) (by decide) (fun _ q => nomatch q)) (kc := 4) (ks := 14) (by decide) (by decide) all0 fun v476 vm476 T476 h476 L476 A476 K476 C476 q476 => ?_
      have Q477 : Keep h0 h476 [] := Q475.trans K476 all0
      obtain ⟨x476, t476, rfl, xg476, G476⟩ := q476
      show Wp pG e below _ T476 (mkF m 24 _ [(.ref x476)])
      refine f_astore A476 at_24 (pc' := 26) rfl rfl (L' := #[.val (.int lens), .val (.int nb), .val (.int rb), .val (.int (1 : Int32)), .val (.int (2 : Int32)), .val (.ref x474), .val (.ref x476), .unset, .unset, .unset]) rfl ?_
      by_cases q0 : c0 = 46
      · refine f_aload A476 at_26 (pc' := 28) rfl rfl rfl ?_
        refine f_aload A476 at_28 (pc' := 30) rfl rfl rfl ?_
        refine f_callSW A476 at_30 (pc' := 33) rfl (wd hw 26 rfl) (wd hw 27 rfl) (wd hw 28 rfl) (wd hw 29 rfl) (by decide) pd26 [(.ref x474), (.ref x476)] [] rfl rfl rfl 0 (Nat.le_of_eq rfl) (CW.pay (W := 0) A476 hEL (m_qd2 l Z a0 hw x474 x476 t476 c0 c1 zc O2 P5 h476 n0 A476.old hEL G476 r0 r1 (by simp [idxD, *])) (wd hw 29 rfl) (wd hw 28 rfl) (by decide) (by decide) (fun _ q => nomatch q)) (kc := 2) (ks := 8) (by decide) (by decide) all0 fun v478 vm478 T478 h478 L478 A478 K478 C478 q478 => ?_
        have Q479 : Keep h0 h478 [] := Q477.trans K478 all0
        obtain rfl := q478
        show Wp pG e below _ T478 (mkF m 33 _ [(.ref x476)])
        refine f_astore A478 at_33 (pc' := 35) rfl rfl (L' := #[.val (.int lens), .val (.int nb), .val (.int rb), .val (.int (1 : Int32)), .val (.int (2 : Int32)), .val (.ref x474), .val (.ref x476), .val (.ref x476), .unset, .unset]) rfl ?_
        refine f_iload A478 at_35 (pc' := 37) rfl rfl ?_
        refine f_ifN A478 at_37 ((if0 _ _).trans (tlt (by decide : (0 : Int32) < (2 : Int32))).2.2.2) (pc' := 40) rfl ?_
        refine f_iloadN A478 at_40 (pc' := 41) rfl rfl ?_
        refine f_iconst A478 at_41 (pc' := 42) rfl 0 rfl ?_
        refine f_callS A478 at_42 (pc' := 45) rfl (wd hw 190 rfl) (wd hw 191 rfl) (wd hw 2 rfl) (wd hw 192 rfl) (by decide) pd16 [(.int rb), (.int (0 : Int32))] [] rfl rfl rfl 0 (Nat.le_of_eq rfl) (CN.pay (W := 0) A478 (m_ch l Z a0 hw rb (0 : Int32) c0 h478 n0 A478.old hc0) (wd hw 192 rfl) (wd hw 2 rfl) (by decide) (by decide)) (kc := 0) (ks := 0) (by decide) (by decide) all0 (fun _ => sf0) fun v480 T480 h480 L480 A480 K480 q480 => ?_
        obtain ⟨rfl, hh480⟩ := q480
        obtain rfl := hh480.symm
        show Wp pG e below _ T480 (mkF m 45 _ [(.int c0)])
        refine f_bipush A480 at_45 (pc' := 47) rfl 46 rfl ?_
        refine f_icY A480 at_47 (teq q0).1 (pc' := 82) (by decide) (by decide) ?_
        refine f_iconst A480 at_82 (pc' := 83) rfl 1 rfl ?_
        refine f_goto A480 at_83 (pc' := 87) (by decide) (by decide) ?_
        refine f_istore A480 at_87 (pc' := 89) rfl (L' := #[.val (.int lens), .val (.int nb), .val (.int rb), .val (.int (1 : Int32)), .val (.int (2 : Int32)), .val (.ref x474), .val (.ref x476), .val (.ref x476), .val (.int (1 : Int32)), .unset]) rfl ?_
        refine f_iload A480 at_89 (pc' := 91) rfl rfl ?_
        refine f_ifN A480 at_91 ((if0 _ _).trans (feq (by decide : ¬ (1 : Int32) = (0 : Int32))).1) (pc' := 94) rfl ?_
        refine f_aload A480 at_94 (pc' := 96) rfl rfl rfl ?_
        refine f_aload A480 at_96 (pc' := 98) rfl rfl rfl ?_
        have c482 := (G476.exa.keep K478)
        refine f_callV A480 (a := x476) at_98 (pc' := 101) rfl (wd hw 206 rfl) (wd hw 207 rfl) (nfS A480 (wd hw 209 rfl)) (wd hw 209 rfl) (wd hw 208 rfl) (by decide) c482 pd28 [(.ref x476)] [] rfl rfl rfl 0 (Nat.le_of_eq rfl) (CN.pay (W := 0) A480 (m_eqself l Z a0 hw x476 h478 n0 A480.old) (wd hw 210 rfl) (wd hw 6 rfl) (by decide) (by decide)) (kc := 0) (ks := 0) (by decide) (by decide) all0 (fun _ => sf0) fun v481 T481 h481 L481 A481 K481 q481 => ?_
        obtain ⟨rfl, hh481⟩ := q481
        obtain rfl := hh481.symm
        show Wp pG e below _ T481 (mkF m 101 _ [(.int (1 : Int32))])
        exact f_retBW A481 hEL hlk hret at_101 (by decide) (1 : Int32) (by decide) (by decide) (by decide) Q479 rfl
      · by_cases q1 : c1 = 46
        · refine f_aload A476 at_26 (pc' := 28) rfl rfl rfl ?_
          refine f_aload A476 at_28 (pc' := 30) rfl rfl rfl ?_
          refine f_callSW A476 at_30 (pc' := 33) rfl (wd hw 26 rfl) (wd hw 27 rfl) (wd hw 28 rfl) (wd hw 29 rfl) (by decide) pd26 [(.ref x474), (.ref x476)] [] rfl rfl rfl 0 (Nat.le_of_eq rfl) (CW.pay (W := 0) A476 hEL (m_qd2 l Z a0 hw x474 x476 t476 c0 c1 zc O2 P5 h476 n0 A476.old hEL G476 r0 r1 (by simp [idxD, *])) (wd hw 29 rfl) (wd hw 28 rfl) (by decide) (by decide) (fun _ q => nomatch q)) (kc := 2) (ks := 8) (by decide) (by decide) all0 fun v483 vm483 T483 h483 L483 A483 K483 C483 q483 => ?_
          have Q484 : Keep h0 h483 [] := Q477.trans K483 all0
          obtain rfl := q483
          show Wp pG e below _ T483 (mkF m 33 _ [(.ref x476)])
          refine f_astore A483 at_33 (pc' := 35) rfl rfl (L' := #[.val (.int lens), .val (.int nb), .val (.int rb), .val (.int (1 : Int32)), .val (.int (2 : Int32)), .val (.ref x474), .val (.ref x476), .val (.ref x476), .unset, .unset]) rfl ?_
          refine f_iload A483 at_35 (pc' := 37) rfl rfl ?_
          refine f_ifN A483 at_37 ((if0 _ _).trans (tlt (by decide : (0 : Int32) < (2 : Int32))).2.2.2) (pc' := 40) rfl ?_
          refine f_iloadN A483 at_40 (pc' := 41) rfl rfl ?_
          refine f_iconst A483 at_41 (pc' := 42) rfl 0 rfl ?_
          refine f_callS A483 at_42 (pc' := 45) rfl (wd hw 190 rfl) (wd hw 191 rfl) (wd hw 2 rfl) (wd hw 192 rfl) (by decide) pd16 [(.int rb), (.int (0 : Int32))] [] rfl rfl rfl 0 (Nat.le_of_eq rfl) (CN.pay (W := 0) A483 (m_ch l Z a0 hw rb (0 : Int32) c0 h483 n0 A483.old hc0) (wd hw 192 rfl) (wd hw 2 rfl) (by decide) (by decide)) (kc := 0) (ks := 0) (by decide) (by decide) all0 (fun _ => sf0) fun v485 T485 h485 L485 A485 K485 q485 => ?_
          obtain ⟨rfl, hh485⟩ := q485
          obtain rfl := hh485.symm
          show Wp pG e below _ T485 (mkF m 45 _ [(.int c0)])
          refine f_bipush A485 at_45 (pc' := 47) rfl 46 rfl ?_
          refine f_icN A485 at_47 (feq q0).1 (pc' := 50) rfl ?_
          refine f_iload A485 at_50 (pc' := 52) rfl rfl ?_
          refine f_iconst A485 at_52 (pc' := 53) rfl 1 rfl ?_
          refine f_icN A485 at_53 (tlt (by decide : (1 : Int32) < (2 : Int32))).2.2.2 (pc' := 56) rfl ?_
          refine f_iloadN A485 at_56 (pc' := 57) rfl rfl ?_
          refine f_iconst A485 at_57 (pc' := 58) rfl 1 rfl ?_
          refine f_callS A485 at_58 (pc' := 61) rfl (wd hw 190 rfl) (wd hw 191 rfl) (wd hw 2 rfl) (wd hw 192 rfl) (by decide) pd16 [(.int rb), (.int (1 : Int32))] [] rfl rfl rfl 0 (Nat.le_of_eq rfl) (CN.pay (W := 0) A485 (m_ch l Z a0 hw rb (1 : Int32) c1 h483 n0 A485.old hc1) (wd hw 192 rfl) (wd hw 2 rfl) (by decide) (by decide)) (kc := 0) (ks := 0) (by decide) (by decide) all0 (fun _ => sf0) fun v486 T486 h486 L486 A486 K486 q486 => ?_
          obtain ⟨rfl, hh486⟩ := q486
          obtain rfl := hh486.symm
          show Wp pG e below _ T486 (mkF m 61 _ [(.int c1)])
          refine f_bipush A486 at_61 (pc' := 63) rfl 46 rfl ?_
          refine f_icY A486 at_63 (teq q1).1 (pc' := 82) (by decide) (by decide) ?_
          refine f_iconst A486 at_82 (pc' := 83) rfl 1 rfl ?_
          refine f_goto A486 at_83 (pc' := 87) (by decide) (by decide) ?_
          refine f_istore A486 at_87 (pc' := 89) rfl (L' := #[.val (.int lens), .val (.int nb), .val (.int rb), .val (.int (1 : Int32)), .val (.int (2 : Int32)), .val (.ref x474), .val (.ref x476), .val (.ref x476), .val (.int (1 : Int32)), .unset]) rfl ?_
          refine f_iload A486 at_89 (pc' := 91) rfl rfl ?_
          refine f_ifN A486 at_91 ((if0 _ _).trans (feq (by decide : ¬ (1 : Int32) = (0 : Int32))).1) (pc' := 94) rfl ?_
          refine f_aload A486 at_94 (pc' := 96) rfl rfl rfl ?_
          refine f_aload A486 at_96 (pc' := 98) rfl rfl rfl ?_
          have c488 := (G476.exa.keep K483)
          refine f_callV A486 (a := x476) at_98 (pc' := 101) rfl (wd hw 206 rfl) (wd hw 207 rfl) (nfS A486 (wd hw 209 rfl)) (wd hw 209 rfl) (wd hw 208 rfl) (by decide) c488 pd28 [(.ref x476)] [] rfl rfl rfl 0 (Nat.le_of_eq rfl) (CN.pay (W := 0) A486 (m_eqself l Z a0 hw x476 h483 n0 A486.old) (wd hw 210 rfl) (wd hw 6 rfl) (by decide) (by decide)) (kc := 0) (ks := 0) (by decide) (by decide) all0 (fun _ => sf0) fun v487 T487 h487 L487 A487 K487 q487 => ?_
          obtain ⟨rfl, hh487⟩ := q487
          obtain rfl := hh487.symm
          show Wp pG e below _ T487 (mkF m 101 _ [(.int (1 : Int32))])
          exact f_retBW A487 hEL hlk hret at_101 (by decide) (1 : Int32) (by decide) (by decide) (by decide) Q484 rfl
        · refine f_aload A476 at_26 (pc' := 28) rfl rfl rfl ?_
          refine f_aload A476 at_28 (pc' := 30) rfl rfl rfl ?_
          have c489 := (G474.keep K476 nin0 nin0)
          refine f_callSW A476 at_30 (pc' := 33) rfl (wd hw 26 rfl) (wd hw 27 rfl) (wd hw 28 rfl) (wd hw 29 rfl) (by decide) pd26 [(.ref x474), (.ref x476)] [] rfl rfl rfl 0 (Nat.le_of_eq rfl) (CW.pay (W := 0) A476 hEL (m_qn2 l Z a0 hw x474 t474 x476 t476 [e0] c0 c1 zc O2 P5 h476 n0 A476.old hEL c489 G476 (lc s0 ln) (Nat.le_of_ble_eq_true rfl) r0 r1 (by simp [idxD, *])) (wd hw 29 rfl) (wd hw 28 rfl) (by decide) (by decide) (fun _ q => nomatch q)) (kc := 9) (ks := 150) (by decide) (by decide) all0 fun v490 vm490 T490 h490 L490 A490 K490 C490 q490 => ?_
          have Q491 : Keep h0 h490 [] := Q477.trans K490 all0
          obtain ⟨a490, b490, rfl, ag490, G490⟩ := q490
          have G490 : Str Z h490 a490 b490 [e0, (46 : Int32), c0, c1] := G490
          show Wp pG e below _ T490 (mkF m 33 _ [(.ref a490)])
          refine f_astore A490 at_33 (pc' := 35) rfl rfl (L' := #[.val (.int lens), .val (.int nb), .val (.int rb), .val (.int (1 : Int32)), .val (.int (2 : Int32)), .val (.ref x474), .val (.ref x476), .val (.ref a490), .unset, .unset]) rfl ?_
          refine f_iload A490 at_35 (pc' := 37) rfl rfl ?_
          refine f_ifN A490 at_37 ((if0 _ _).trans (tlt (by decide : (0 : Int32) < (2 : Int32))).2.2.2) (pc' := 40) rfl ?_
          refine f_iloadN A490 at_40 (pc' := 41) rfl rfl ?_
          refine f_iconst A490 at_41 (pc' := 42) rfl 0 rfl ?_
          refine f_callS A490 at_42 (pc' := 45) rfl (wd hw 190 rfl) (wd hw 191 rfl) (wd hw 2 rfl) (wd hw 192 rfl) (by decide) pd16 [(.int rb), (.int (0 : Int32))] [] rfl rfl rfl 0 (Nat.le_of_eq rfl) (CN.pay (W := 0) A490 (m_ch l Z a0 hw rb (0 : Int32) c0 h490 n0 A490.old hc0) (wd hw 192 rfl) (wd hw 2 rfl) (by decide) (by decide)) (kc := 0) (ks := 0) (by decide) (by decide) all0 (fun _ => sf0) fun v492 T492 h492 L492 A492 K492 q492 => ?_
          obtain ⟨rfl, hh492⟩ := q492
          obtain rfl := hh492.symm
          show Wp pG e below _ T492 (mkF m 45 _ [(.int c0)])
          refine f_bipush A492 at_45 (pc' := 47) rfl 46 rfl ?_
          refine f_icN A492 at_47 (feq q0).1 (pc' := 50) rfl ?_
          refine f_iload A492 at_50 (pc' := 52) rfl rfl ?_
          refine f_iconst A492 at_52 (pc' := 53) rfl 1 rfl ?_
          refine f_icN A492 at_53 (tlt (by decide : (1 : Int32) < (2 : Int32))).2.2.2 (pc' := 56) rfl ?_
          refine f_iloadN A492 at_56 (pc' := 57) rfl rfl ?_
          refine f_iconst A492 at_57 (pc' := 58) rfl 1 rfl ?_
          refine f_callS A492 at_58 (pc' := 61) rfl (wd hw 190 rfl) (wd hw 191 rfl) (wd hw 2 rfl) (wd hw 192 rfl) (by decide) pd16 [(.int rb), (.int (1 : Int32))] [] rfl rfl rfl 0 (Nat.le_of_eq rfl) (CN.pay (W := 0) A492 (m_ch l Z a0 hw rb (1 : Int32) c1 h490 n0 A492.old hc1) (wd hw 192 rfl) (wd hw 2 rfl) (by decide) (by decide)) (kc := 0) (ks := 0) (by decide) (by decide) all0 (fun _ => sf0) fun v493 T493 h493 L493 A493 K493 q493 => ?_
          obtain ⟨rfl, hh493⟩ := q493
          obtain rfl := hh493.symm
          show Wp pG e below _ T493 (mkF m 61 _ [(.int c1)])
          refine f_bipush A493 at_61 (pc' := 63) rfl 46 rfl ?_
          refine f_icN A493 at_63 (feq q1).1 (pc' := 66) rfl ?_
          refine f_iload A493 at_66 (pc' := 68) rfl rfl ?_
          refine f_iconst A493 at_68 (pc' := 69) rfl 2 rfl ?_
          refine f_icY A493 at_69 (flt (by decide : ¬ (2 : Int32) < (2 : Int32))).2.2.2 (pc' := 86) (by decide) (by decide) ?_
          refine f_iconst A493 at_86 (pc' := 87) rfl 0 rfl ?_
          refine f_istore A493 at_87 (pc' := 89) rfl (L' := #[.val (.int lens), .val (.int nb), .val (.int rb), .val (.int (1 : Int32)), .val (.int (2 : Int32)), .val (.ref x474), .val (.ref x476), .val (.ref a490), .val (.int (0 : Int32)), .unset]) rfl ?_
          refine f_iload A493 at_89 (pc' := 91) rfl rfl ?_
          refine f_ifY A493 at_91 ((if0 _ _).trans (teq (by decide : (0 : Int32) = (0 : Int32))).1) (pc' := 102) (by decide) (by decide) ?_
          refine f_iloadN A493 at_102 (pc' := 103) rfl rfl ?_
          refine f_iconst A493 at_103 (pc' := 104) rfl 1 rfl ?_
          refine f_iadd A493 at_104 (pc' := 105) rfl (2 : Int32) (by decide) ?_
          refine f_iload A493 at_105 (pc' := 107) rfl rfl ?_
          refine f_iadd A493 at_107 (pc' := 108) rfl (4 : Int32) (by decide) ?_
          refine f_istore A493 at_108 (pc' := 110) rfl (L' := #[.val (.int lens), .val (.int nb), .val (.int rb), .val (.int (1 : Int32)), .val (.int (2 : Int32)), .val (.ref x474), .val (.ref x476), .val (.ref a490), .val (.int (0 : Int32)), .val (.int (4 : Int32))]) rfl ?_
          refine f_aload A493 at_110 (pc' := 112) rfl rfl rfl ?_
          refine f_callV A493 (a := a490) at_112 (pc' := 115) rfl (wd hw 170 rfl) (wd hw 94 rfl) (nfS A493 (wd hw 96 rfl)) (wd hw 96 rfl) (wd hw 95 rfl) (by decide) G490.exa pd5 [] [] rfl rfl rfl 0 (Nat.le_of_eq rfl) (payLen (W := 0) A493 hw (wd hw 5 rfl) G490 O2 P5 (by decide) (by decide)) (kc := 0) (ks := 0) (by decide) (by decide) all0 (fun _ => sf0) fun v494 T494 h494 L494 A494 K494 q494 => ?_
          obtain ⟨rfl, hh494⟩ := q494
          obtain rfl := hh494.symm
          show Wp pG e below _ T494 (mkF m 115 _ [(.int (4 : Int32))])
          refine f_iload A494 at_115 (pc' := 117) rfl rfl ?_
          refine f_icY A494 at_117 (teq (by decide : (4 : Int32) = (4 : Int32))).1 (pc' := 122) (by decide) (by decide) ?_
          refine f_aload A494 at_122 (pc' := 124) rfl rfl rfl ?_
          refine f_iconst A494 at_124 (pc' := 125) rfl 0 rfl ?_
          refine f_iload A494 at_125 (pc' := 127) rfl rfl ?_
          refine f_iloadN A494 at_127 (pc' := 128) rfl rfl ?_
          refine f_iloadN A494 at_128 (pc' := 129) rfl rfl ?_
          refine f_iloadN A494 at_129 (pc' := 130) rfl rfl ?_
          refine f_callS A494 at_130 (pc' := 133) rfl (wd hw 171 rfl) (wd hw 172 rfl) (wd hw 2 rfl) (wd hw 173 rfl) (by decide) pd27 [(.ref a490), (.int (0 : Int32)), (.int (4 : Int32)), (.int (1 : Int32)), (.int nb), (.int rb)] [] rfl rfl rfl 0 (Nat.le_of_eq rfl) (CN.pay (W := 0) A494 (m_okN l Z a0 hw a490 (0 : Int32) (4 : Int32) (1 : Int32) nb rb b490 [e0, (46 : Int32), c0, c1] 0 e0 zc O2 P5 fm O4 rG3 h490 n0 A494.old G490 (lat2 (lc s0 (lc (by decide) (lc r0 (lc r1 ln))))) (Nat.le_of_ble_eq_true rfl) rfl rfl (by decide) (by decide) he0) (wd hw 173 rfl) (wd hw 2 rfl) (by decide) (by decide)) (kc := 0) (ks := 0) (by decide) (by decide) all0 (fun _ => sf0) fun v495 T495 h495 L495 A495 K495 q495 => ?_
          obtain ⟨rfl, hh495⟩ := q495
          obtain rfl := hh495.symm
          show Wp pG e below _ T495 (mkF m 133 _ [(.int (1 : Int32))])
          refine f_ifN A495 at_133 ((if0 _ _).trans (feq (by decide : ¬ (1 : Int32) = (0 : Int32))).1) (pc' := 136) rfl ?_
          refine f_aload A495 at_136 (pc' := 138) rfl rfl rfl ?_
          refine f_iconst A495 at_138 (pc' := 139) rfl 1 rfl ?_
          refine f_iload A495 at_139 (pc' := 141) rfl rfl ?_
          refine f_iloadN A495 at_141 (pc' := 142) rfl rfl ?_
          refine f_iloadN A495 at_142 (pc' := 143) rfl rfl ?_
          refine f_iloadN A495 at_143 (pc' := 144) rfl rfl ?_
          refine f_callS A495 at_144 (pc' := 147) rfl (wd hw 171 rfl) (wd hw 172 rfl) (wd hw 2 rfl) (wd hw 173 rfl) (by decide) pd27 [(.ref a490), (.int (1 : Int32)), (.int (4 : Int32)), (.int (1 : Int32)), (.int nb), (.int rb)] [] rfl rfl rfl 0 (Nat.le_of_eq rfl) (CN.pay (W := 0) A495 (m_okD l Z a0 hw a490 (1 : Int32) (4 : Int32) (1 : Int32) nb rb b490 [e0, (46 : Int32), c0, c1] 1 (46 : Int32) zc O2 P5 fm O4 rG3 h490 n0 A495.old G490 (lat2 (lc s0 (lc (by decide) (lc r0 (lc r1 ln))))) (Nat.le_of_ble_eq_true rfl) rfl rfl (by decide) rfl (by decide) rfl) (wd hw 173 rfl) (wd hw 2 rfl) (by decide) (by decide)) (kc := 0) (ks := 0) (by decide) (by decide) all0 (fun _ => sf0) fun v496 T496 h496 L496 A496 K496 q496 => ?_
          obtain ⟨rfl, hh496⟩ := q496
          obtain rfl := hh496.symm
          show Wp pG e below _ T496 (mkF m 147 _ [(.int (1 : Int32))])
          refine f_ifN A496 at_147 ((if0 _ _).trans (feq (by decide : ¬ (1 : Int32) = (0 : Int32))).1) (pc' := 150) rfl ?_
          refine f_aload A496 at_150 (pc' := 152) rfl rfl rfl ?_
          refine f_iconst A496 at_152 (pc' := 153) rfl 2 rfl ?_
          refine f_iload A496 at_153 (pc' := 155) rfl rfl ?_
          refine f_iloadN A496 at_155 (pc' := 156) rfl rfl ?_
          refine f_iloadN A496 at_156 (pc' := 157) rfl rfl ?_
          refine f_iloadN A496 at_157 (pc' := 158) rfl rfl ?_
          refine f_callS A496 at_158 (pc' := 161) rfl (wd hw 171 rfl) (wd hw 172 rfl) (wd hw 2 rfl) (wd hw 173 rfl) (by decide) pd27 [(.ref a490), (.int (2 : Int32)), (.int (4 : Int32)), (.int (1 : Int32)), (.int nb), (.int rb)] [] rfl rfl rfl 0 (Nat.le_of_eq rfl) (CN.pay (W := 0) A496 (m_okR l Z a0 hw a490 (2 : Int32) (4 : Int32) (1 : Int32) nb rb b490 [e0, (46 : Int32), c0, c1] 2 c0 zc O2 P5 fm O4 rG3 h490 n0 A496.old G490 (lat2 (lc s0 (lc (by decide) (lc r0 (lc r1 ln))))) (Nat.le_of_ble_eq_true rfl) rfl rfl (by decide) (by decide) (by decide) hc0) (wd hw 173 rfl) (wd hw 2 rfl) (by decide) (by decide)) (kc := 0) (ks := 0) (by decide) (by decide) all0 (fun _ => sf0) fun v497 T497 h497 L497 A497 K497 q497 => ?_
          obtain ⟨rfl, hh497⟩ := q497
          obtain rfl := hh497.symm
          show Wp pG e below _ T497 (mkF m 161 _ [(.int (1 : Int32))])
          refine f_ifN A497 at_161 ((if0 _ _).trans (feq (by decide : ¬ (1 : Int32) = (0 : Int32))).1) (pc' := 164) rfl ?_
          refine f_aload A497 at_164 (pc' := 166) rfl rfl rfl ?_
          refine f_iconst A497 at_166 (pc' := 167) rfl 3 rfl ?_
          refine f_iload A497 at_167 (pc' := 169) rfl rfl ?_
          refine f_iloadN A497 at_169 (pc' := 170) rfl rfl ?_
          refine f_iloadN A497 at_170 (pc' := 171) rfl rfl ?_
          refine f_iloadN A497 at_171 (pc' := 172) rfl rfl ?_
          refine f_callS A497 at_172 (pc' := 175) rfl (wd hw 171 rfl) (wd hw 172 rfl) (wd hw 2 rfl) (wd hw 173 rfl) (by decide) pd27 [(.ref a490), (.int (3 : Int32)), (.int (4 : Int32)), (.int (1 : Int32)), (.int nb), (.int rb)] [] rfl rfl rfl 0 (Nat.le_of_eq rfl) (CN.pay (W := 0) A497 (m_okR l Z a0 hw a490 (3 : Int32) (4 : Int32) (1 : Int32) nb rb b490 [e0, (46 : Int32), c0, c1] 3 c1 zc O2 P5 fm O4 rG3 h490 n0 A497.old G490 (lat2 (lc s0 (lc (by decide) (lc r0 (lc r1 ln))))) (Nat.le_of_ble_eq_true rfl) rfl rfl (by decide) (by decide) (by decide) hc1) (wd hw 173 rfl) (wd hw 2 rfl) (by decide) (by decide)) (kc := 0) (ks := 0) (by decide) (by decide) all0 (fun _ => sf0) fun v498 T498 h498 L498 A498 K498 q498 => ?_
          obtain ⟨rfl, hh498⟩ := q498
          obtain rfl := hh498.symm
          show Wp pG e below _ T498 (mkF m 175 _ [(.int (1 : Int32))])
          refine f_ifN A498 at_175 ((if0 _ _).trans (feq (by decide : ¬ (1 : Int32) = (0 : Int32))).1) (pc' := 178) rfl ?_
          refine f_aload A498 at_178 (pc' := 180) rfl rfl rfl ?_
          refine f_iconst A498 at_180 (pc' := 181) rfl 4 rfl ?_
          refine f_iload A498 at_181 (pc' := 183) rfl rfl ?_
          refine f_iloadN A498 at_183 (pc' := 184) rfl rfl ?_
          refine f_iloadN A498 at_184 (pc' := 185) rfl rfl ?_
          refine f_iloadN A498 at_185 (pc' := 186) rfl rfl ?_
          refine f_callS A498 at_186 (pc' := 189) rfl (wd hw 171 rfl) (wd hw 172 rfl) (wd hw 2 rfl) (wd hw 173 rfl) (by decide) pd27 [(.ref a490), (.int (4 : Int32)), (.int (4 : Int32)), (.int (1 : Int32)), (.int nb), (.int rb)] [] rfl rfl rfl 0 (Nat.le_of_eq rfl) (CN.pay (W := 0) A498 (m_okO l Z a0 hw a490 (4 : Int32) (4 : Int32) (1 : Int32) nb rb h490 n0 A498.old (by decide)) (wd hw 173 rfl) (wd hw 2 rfl) (by decide) (by decide)) (kc := 0) (ks := 0) (by decide) (by decide) all0 (fun _ => sf0) fun v499 T499 h499 L499 A499 K499 q499 => ?_
          obtain ⟨rfl, hh499⟩ := q499
          obtain rfl := hh499.symm
          show Wp pG e below _ T499 (mkF m 189 _ [(.int (1 : Int32))])
          refine f_ifN A499 at_189 ((if0 _ _).trans (feq (by decide : ¬ (1 : Int32) = (0 : Int32))).1) (pc' := 192) rfl ?_
          refine f_aload A499 at_192 (pc' := 194) rfl rfl rfl ?_
          refine f_iconst A499 at_194 (pc' := 195) rfl 5 rfl ?_
          refine f_iload A499 at_195 (pc' := 197) rfl rfl ?_
          refine f_iloadN A499 at_197 (pc' := 198) rfl rfl ?_
          refine f_iloadN A499 at_198 (pc' := 199) rfl rfl ?_
          refine f_iloadN A499 at_199 (pc' := 200) rfl rfl ?_
          refine f_callS A499 at_200 (pc' := 203) rfl (wd hw 171 rfl) (wd hw 172 rfl) (wd hw 2 rfl) (wd hw 173 rfl) (by decide) pd27 [(.ref a490), (.int (5 : Int32)), (.int (4 : Int32)), (.int (1 : Int32)), (.int nb), (.int rb)] [] rfl rfl rfl 0 (Nat.le_of_eq rfl) (CN.pay (W := 0) A499 (m_okO l Z a0 hw a490 (5 : Int32) (4 : Int32) (1 : Int32) nb rb h490 n0 A499.old (by decide)) (wd hw 173 rfl) (wd hw 2 rfl) (by decide) (by decide)) (kc := 0) (ks := 0) (by decide) (by decide) all0 (fun _ => sf0) fun v500 T500 h500 L500 A500 K500 q500 => ?_
          obtain ⟨rfl, hh500⟩ := q500
          obtain rfl := hh500.symm
          show Wp pG e below _ T500 (mkF m 203 _ [(.int (1 : Int32))])
          refine f_ifN A500 at_203 ((if0 _ _).trans (feq (by decide : ¬ (1 : Int32) = (0 : Int32))).1) (pc' := 206) rfl ?_
          refine f_aload A500 at_206 (pc' := 208) rfl rfl rfl ?_
          refine f_bipush A500 at_208 (pc' := 210) rfl 6 rfl ?_
          refine f_iload A500 at_210 (pc' := 212) rfl rfl ?_
          refine f_iloadN A500 at_212 (pc' := 213) rfl rfl ?_
          refine f_iloadN A500 at_213 (pc' := 214) rfl rfl ?_
          refine f_iloadN A500 at_214 (pc' := 215) rfl rfl ?_
          refine f_callS A500 at_215 (pc' := 218) rfl (wd hw 171 rfl) (wd hw 172 rfl) (wd hw 2 rfl) (wd hw 173 rfl) (by decide) pd27 [(.ref a490), (.int (6 : Int32)), (.int (4 : Int32)), (.int (1 : Int32)), (.int nb), (.int rb)] [] rfl rfl rfl 0 (Nat.le_of_eq rfl) (CN.pay (W := 0) A500 (m_okO l Z a0 hw a490 (6 : Int32) (4 : Int32) (1 : Int32) nb rb h490 n0 A500.old (by decide)) (wd hw 173 rfl) (wd hw 2 rfl) (by decide) (by decide)) (kc := 0) (ks := 0) (by decide) (by decide) all0 (fun _ => sf0) fun v501 T501 h501 L501 A501 K501 q501 => ?_
          obtain ⟨rfl, hh501⟩ := q501
          obtain rfl := hh501.symm
          show Wp pG e below _ T501 (mkF m 218 _ [(.int (1 : Int32))])
          refine f_ifN A501 at_218 ((if0 _ _).trans (feq (by decide : ¬ (1 : Int32) = (0 : Int32))).1) (pc' := 221) rfl ?_
          refine f_iconst A501 at_221 (pc' := 222) rfl 1 rfl ?_
          refine f_goto A501 at_222 (pc' := 226) (by decide) (by decide) ?_
          exact f_retBW A501 hEL hlk hret at_226 (by decide) (1 : Int32) (by decide) (by decide) (by decide) Q491 rfl
    · refine f_iloadN A0 at_0 (pc' := 1) rfl rfl ?_
      refine f_iconst A0 at_1 (pc' := 2) rfl 3 rfl ?_
      refine f_iand A0 at_2 (pc' := 3) rfl (1 : Int32) hm0 ?_
      refine f_istoreN A0 at_3 (pc' := 4) rfl (L' := #[.val (.int lens), .val (.int nb), .val (.int rb), .val (.int (1 : Int32)), .unset, .unset, .unset, .unset, .unset, .unset]) rfl ?_
      refine f_iloadN A0 at_4 (pc' := 5) rfl rfl ?_
      refine f_iconst A0 at_5 (pc' := 6) rfl 2 rfl ?_
      refine f_iushr A0 at_6 (pc' := 7) rfl ((lens.toUInt32 >>> ((2 : Int32) &&& 31).toUInt32).toInt32) rfl ?_
      refine f_iconst A0 at_7 (pc' := 8) rfl 3 rfl ?_
      refine f_iand A0 at_8 (pc' := 9) rfl (3 : Int32) hn1 ?_
      refine f_istore A0 at_9 (pc' := 11) rfl (L' := #[.val (.int lens), .val (.int nb), .val (.int rb), .val (.int (1 : Int32)), .val (.int (3 : Int32)), .unset, .unset, .unset, .unset, .unset]) rfl ?_
      refine f_iloadN A0 at_11 (pc' := 12) rfl rfl ?_
      refine f_iloadN A0 at_12 (pc' := 13) rfl rfl ?_
      refine f_callSW A0 at_13 (pc' := 16) rfl (wd hw 0 rfl) (wd hw 1 rfl) (wd hw 2 rfl) (wd hw 3 rfl) (by decide) pd25 [(.int (1 : Int32)), (.int nb)] [] rfl rfl rfl 0 (Nat.le_of_eq rfl) (CW.pay (W := 0) A0 hEL (m_str1 l Z a0 hw nb e0 e1 e2 zc O2 P5 h0 n0 A0.old hEL he0 s0 he1 s1 he2 s2) (wd hw 3 rfl) (wd hw 2 rfl) (by decide) (by decide) (fun _ q => nomatch q)) (kc := 4) (ks := 14) (by decide) (by decide) all0 fun v502 vm502 T502 h502 L502 A502 K502 C502 q502 => ?_
      have Q503 : Keep h0 h502 [] := K0.trans K502 all0
      obtain ⟨x502, t502, rfl, xg502, G502⟩ := q502
      show Wp pG e below _ T502 (mkF m 16 _ [(.ref x502)])
      refine f_astore A502 at_16 (pc' := 18) rfl rfl (L' := #[.val (.int lens), .val (.int nb), .val (.int rb), .val (.int (1 : Int32)), .val (.int (3 : Int32)), .val (.ref x502), .unset, .unset, .unset, .unset]) rfl ?_
      refine f_iload A502 at_18 (pc' := 20) rfl rfl ?_
      refine f_iloadN A502 at_20 (pc' := 21) rfl rfl ?_
      refine f_callSW A502 at_21 (pc' := 24) rfl (wd hw 0 rfl) (wd hw 1 rfl) (wd hw 2 rfl) (wd hw 3 rfl) (by decide) pd25 [(.int (3 : Int32)), (.int rb)] [] rfl rfl rfl 0 (Nat.le_of_eq rfl) (CW.pay (W := 0) A502 hEL (m_str3 l Z a0 hw rb c0 c1 c2 zc O2 P5 h502 n0 A502.old hEL hc0 r0 hc1 r1 hc2 r2) (wd hw 3 rfl) (wd hw 2 rfl) (by decide) (by decide) (fun _ q => nomatch q)) (kc := 4) (ks := 14) (by decide) (by decide) all0 fun v504 vm504 T504 h504 L504 A504 K504 C504 q504 => ?_
      have Q505 : Keep h0 h504 [] := Q503.trans K504 all0
      obtain ⟨x504, t504, rfl, xg504, G504⟩ := q504
      show Wp pG e below _ T504 (mkF m 24 _ [(.ref x504)])
      refine f_astore A504 at_24 (pc' := 26) rfl rfl (L' := #[.val (.int lens), .val (.int nb), .val (.int rb), .val (.int (1 : Int32)), .val (.int (3 : Int32)), .val (.ref x502), .val (.ref x504), .unset, .unset, .unset]) rfl ?_
      by_cases q0 : c0 = 46
      · refine f_aload A504 at_26 (pc' := 28) rfl rfl rfl ?_
        refine f_aload A504 at_28 (pc' := 30) rfl rfl rfl ?_
        refine f_callSW A504 at_30 (pc' := 33) rfl (wd hw 26 rfl) (wd hw 27 rfl) (wd hw 28 rfl) (wd hw 29 rfl) (by decide) pd26 [(.ref x502), (.ref x504)] [] rfl rfl rfl 0 (Nat.le_of_eq rfl) (CW.pay (W := 0) A504 hEL (m_qd3 l Z a0 hw x502 x504 t504 c0 c1 c2 zc O2 P5 h504 n0 A504.old hEL G504 r0 r1 r2 (by simp [idxD, *])) (wd hw 29 rfl) (wd hw 28 rfl) (by decide) (by decide) (fun _ q => nomatch q)) (kc := 2) (ks := 8) (by decide) (by decide) all0 fun v506 vm506 T506 h506 L506 A506 K506 C506 q506 => ?_
        have Q507 : Keep h0 h506 [] := Q505.trans K506 all0
        obtain rfl := q506
        show Wp pG e below _ T506 (mkF m 33 _ [(.ref x504)])
        refine f_astore A506 at_33 (pc' := 35) rfl rfl (L' := #[.val (.int lens), .val (.int nb), .val (.int rb), .val (.int (1 : Int32)), .val (.int (3 : Int32)), .val (.ref x502), .val (.ref x504), .val (.ref x504), .unset, .unset]) rfl ?_
        refine f_iload A506 at_35 (pc' := 37) rfl rfl ?_
        refine f_ifN A506 at_37 ((if0 _ _).trans (tlt (by decide : (0 : Int32) < (3 : Int32))).2.2.2) (pc' := 40) rfl ?_
        refine f_iloadN A506 at_40 (pc' := 41) rfl rfl ?_
        refine f_iconst A506 at_41 (pc' := 42) rfl 0 rfl ?_
        refine f_callS A506 at_42 (pc' := 45) rfl (wd hw 190 rfl) (wd hw 191 rfl) (wd hw 2 rfl) (wd hw 192 rfl) (by decide) pd16 [(.int rb), (.int (0 : Int32))] [] rfl rfl rfl 0 (Nat.le_of_eq rfl) (CN.pay (W := 0) A506 (m_ch l Z a0 hw rb (0 : Int32) c0 h506 n0 A506.old hc0) (wd hw 192 rfl) (wd hw 2 rfl) (by decide) (by decide)) (kc := 0) (ks := 0) (by decide) (by decide) all0 (fun _ => sf0) fun v508 T508 h508 L508 A508 K508 q508 => ?_
        obtain ⟨rfl, hh508⟩ := q508
        obtain rfl := hh508.symm
        show Wp pG e below _ T508 (mkF m 45 _ [(.int c0)])
        refine f_bipush A508 at_45 (pc' := 47) rfl 46 rfl ?_
        refine f_icY A508 at_47 (teq q0).1 (pc' := 82) (by decide) (by decide) ?_
        refine f_iconst A508 at_82 (pc' := 83) rfl 1 rfl ?_
        refine f_goto A508 at_83 (pc' := 87) (by decide) (by decide) ?_
        refine f_istore A508 at_87 (pc' := 89) rfl (L' := #[.val (.int lens), .val (.int nb), .val (.int rb), .val (.int (1 : Int32)), .val (.int (3 : Int32)), .val (.ref x502), .val (.ref x504), .val (.ref x504), .val (.int (1 : Int32)), .unset]) rfl ?_
        refine f_iload A508 at_89 (pc' := 91) rfl rfl ?_
        refine f_ifN A508 at_91 ((if0 _ _).trans (feq (by decide : ¬ (1 : Int32) = (0 : Int32))).1) (pc' := 94) rfl ?_
        refine f_aload A508 at_94 (pc' := 96) rfl rfl rfl ?_
        refine f_aload A508 at_96 (pc' := 98) rfl rfl rfl ?_
        have c510 := (G504.exa.keep K506)
        refine f_callV A508 (a := x504) at_98 (pc' := 101) rfl (wd hw 206 rfl) (wd hw 207 rfl) (nfS A508 (wd hw 209 rfl)) (wd hw 209 rfl) (wd hw 208 rfl) (by decide) c510 pd28 [(.ref x504)] [] rfl rfl rfl 0 (Nat.le_of_eq rfl) (CN.pay (W := 0) A508 (m_eqself l Z a0 hw x504 h506 n0 A508.old) (wd hw 210 rfl) (wd hw 6 rfl) (by decide) (by decide)) (kc := 0) (ks := 0) (by decide) (by decide) all0 (fun _ => sf0) fun v509 T509 h509 L509 A509 K509 q509 => ?_
        obtain ⟨rfl, hh509⟩ := q509
        obtain rfl := hh509.symm
        show Wp pG e below _ T509 (mkF m 101 _ [(.int (1 : Int32))])
        exact f_retBW A509 hEL hlk hret at_101 (by decide) (1 : Int32) (by decide) (by decide) (by decide) Q507 rfl
      · by_cases q1 : c1 = 46
        · refine f_aload A504 at_26 (pc' := 28) rfl rfl rfl ?_
          refine f_aload A504 at_28 (pc' := 30) rfl rfl rfl ?_
          refine f_callSW A504 at_30 (pc' := 33) rfl (wd hw 26 rfl) (wd hw 27 rfl) (wd hw 28 rfl) (wd hw 29 rfl) (by decide) pd26 [(.ref x502), (.ref x504)] [] rfl rfl rfl 0 (Nat.le_of_eq rfl) (CW.pay (W := 0) A504 hEL (m_qd3 l Z a0 hw x502 x504 t504 c0 c1 c2 zc O2 P5 h504 n0 A504.old hEL G504 r0 r1 r2 (by simp [idxD, *])) (wd hw 29 rfl) (wd hw 28 rfl) (by decide) (by decide) (fun _ q => nomatch q)) (kc := 2) (ks := 8) (by decide) (by decide) all0 fun v511 vm511 T511 h511 L511 A511 K511 C511 q511 => ?_
          have Q512 : Keep h0 h511 [] := Q505.trans K511 all0
          obtain rfl := q511
          show Wp pG e below _ T511 (mkF m 33 _ [(.ref x504)])
          refine f_astore A511 at_33 (pc' := 35) rfl rfl (L' := #[.val (.int lens), .val (.int nb), .val (.int rb), .val (.int (1 : Int32)), .val (.int (3 : Int32)), .val (.ref x502), .val (.ref x504), .val (.ref x504), .unset, .unset]) rfl ?_
          refine f_iload A511 at_35 (pc' := 37) rfl rfl ?_
          refine f_ifN A511 at_37 ((if0 _ _).trans (tlt (by decide : (0 : Int32) < (3 : Int32))).2.2.2) (pc' := 40) rfl ?_
          refine f_iloadN A511 at_40 (pc' := 41) rfl rfl ?_
          refine f_iconst A511 at_41 (pc' := 42) rfl 0 rfl ?_
          refine f_callS A511 at_42 (pc' := 45) rfl (wd hw 190 rfl) (wd hw 191 rfl) (wd hw 2 rfl) (wd hw 192 rfl) (by decide) pd16 [(.int rb), (.int (0 : Int32))] [] rfl rfl rfl 0 (Nat.le_of_eq rfl) (CN.pay (W := 0) A511 (m_ch l Z a0 hw rb (0 : Int32) c0 h511 n0 A511.old hc0) (wd hw 192 rfl) (wd hw 2 rfl) (by decide) (by decide)) (kc := 0) (ks := 0) (by decide) (by decide) all0 (fun _ => sf0) fun v513 T513 h513 L513 A513 K513 q513 => ?_
          obtain ⟨rfl, hh513⟩ := q513
          obtain rfl := hh513.symm
          show Wp pG e below _ T513 (mkF m 45 _ [(.int c0)])
          refine f_bipush A513 at_45 (pc' := 47) rfl 46 rfl ?_
          refine f_icN A513 at_47 (feq q0).1 (pc' := 50) rfl ?_
          refine f_iload A513 at_50 (pc' := 52) rfl rfl ?_
          refine f_iconst A513 at_52 (pc' := 53) rfl 1 rfl ?_
          refine f_icN A513 at_53 (tlt (by decide : (1 : Int32) < (3 : Int32))).2.2.2 (pc' := 56) rfl ?_
          refine f_iloadN A513 at_56 (pc' := 57) rfl rfl ?_
          refine f_iconst A513 at_57 (pc' := 58) rfl 1 rfl ?_
          refine f_callS A513 at_58 (pc' := 61) rfl (wd hw 190 rfl) (wd hw 191 rfl) (wd hw 2 rfl) (wd hw 192 rfl) (by decide) pd16 [(.int rb), (.int (1 : Int32))] [] rfl rfl rfl 0 (Nat.le_of_eq rfl) (CN.pay (W := 0) A513 (m_ch l Z a0 hw rb (1 : Int32) c1 h511 n0 A513.old hc1) (wd hw 192 rfl) (wd hw 2 rfl) (by decide) (by decide)) (kc := 0) (ks := 0) (by decide) (by decide) all0 (fun _ => sf0) fun v514 T514 h514 L514 A514 K514 q514 => ?_
          obtain ⟨rfl, hh514⟩ := q514
          obtain rfl := hh514.symm
          show Wp pG e below _ T514 (mkF m 61 _ [(.int c1)])
          refine f_bipush A514 at_61 (pc' := 63) rfl 46 rfl ?_
          refine f_icY A514 at_63 (teq q1).1 (pc' := 82) (by decide) (by decide) ?_
          refine f_iconst A514 at_82 (pc' := 83) rfl 1 rfl ?_
          refine f_goto A514 at_83 (pc' := 87) (by decide) (by decide) ?_
          refine f_istore A514 at_87 (pc' := 89) rfl (L' := #[.val (.int lens), .val (.int nb), .val (.int rb), .val (.int (1 : Int32)), .val (.int (3 : Int32)), .val (.ref x502), .val (.ref x504), .val (.ref x504), .val (.int (1 : Int32)), .unset]) rfl ?_
          refine f_iload A514 at_89 (pc' := 91) rfl rfl ?_
          refine f_ifN A514 at_91 ((if0 _ _).trans (feq (by decide : ¬ (1 : Int32) = (0 : Int32))).1) (pc' := 94) rfl ?_
          refine f_aload A514 at_94 (pc' := 96) rfl rfl rfl ?_
          refine f_aload A514 at_96 (pc' := 98) rfl rfl rfl ?_
          have c516 := (G504.exa.keep K511)
          refine f_callV A514 (a := x504) at_98 (pc' := 101) rfl (wd hw 206 rfl) (wd hw 207 rfl) (nfS A514 (wd hw 209 rfl)) (wd hw 209 rfl) (wd hw 208 rfl) (by decide) c516 pd28 [(.ref x504)] [] rfl rfl rfl 0 (Nat.le_of_eq rfl) (CN.pay (W := 0) A514 (m_eqself l Z a0 hw x504 h511 n0 A514.old) (wd hw 210 rfl) (wd hw 6 rfl) (by decide) (by decide)) (kc := 0) (ks := 0) (by decide) (by decide) all0 (fun _ => sf0) fun v515 T515 h515 L515 A515 K515 q515 => ?_
          obtain ⟨rfl, hh515⟩ := q515
          obtain rfl := hh515.symm
          show Wp pG e below _ T515 (mkF m 101 _ [(.int (1 : Int32))])
          exact f_retBW A515 hEL hlk hret at_101 (by decide) (1 : Int32) (by decide) (by decide) (by decide) Q512 rfl
        · by_cases q2 : c2 = 46
          · refine f_aload A504 at_26 (pc' := 28) rfl rfl rfl ?_
            refine f_aload A504 at_28 (pc' := 30) rfl rfl rfl ?_
            refine f_callSW A504 at_30 (pc' := 33) rfl (wd hw 26 rfl) (wd hw 27 rfl) (wd hw 28 rfl) (wd hw 29 rfl) (by decide) pd26 [(.ref x502), (.ref x504)] [] rfl rfl rfl 0 (Nat.le_of_eq rfl) (CW.pay (W := 0) A504 hEL (m_qd3 l Z a0 hw x502 x504 t504 c0 c1 c2 zc O2 P5 h504 n0 A504.old hEL G504 r0 r1 r2 (by simp [idxD, *])) (wd hw 29 rfl) (wd hw 28 rfl) (by decide) (by decide) (fun _ q => nomatch q)) (kc := 2) (ks := 8) (by decide) (by decide) all0 fun v517 vm517 T517 h517 L517 A517 K517 C517 q517 => ?_
            have Q518 : Keep h0 h517 [] := Q505.trans K517 all0
            obtain rfl := q517
            show Wp pG e below _ T517 (mkF m 33 _ [(.ref x504)])
            refine f_astore A517 at_33 (pc' := 35) rfl rfl (L' := #[.val (.int lens), .val (.int nb), .val (.int rb), .val (.int (1 : Int32)), .val (.int (3 : Int32)), .val (.ref x502), .val (.ref x504), .val (.ref x504), .unset, .unset]) rfl ?_
            refine f_iload A517 at_35 (pc' := 37) rfl rfl ?_
            refine f_ifN A517 at_37 ((if0 _ _).trans (tlt (by decide : (0 : Int32) < (3 : Int32))).2.2.2) (pc' := 40) rfl ?_
            refine f_iloadN A517 at_40 (pc' := 41) rfl rfl ?_
            refine f_iconst A517 at_41 (pc' := 42) rfl 0 rfl ?_
            refine f_callS A517 at_42 (pc' := 45) rfl (wd hw 190 rfl) (wd hw 191 rfl) (wd hw 2 rfl) (wd hw 192 rfl) (by decide) pd16 [(.int rb), (.int (0 : Int32))] [] rfl rfl rfl 0 (Nat.le_of_eq rfl) (CN.pay (W := 0) A517 (m_ch l Z a0 hw rb (0 : Int32) c0 h517 n0 A517.old hc0) (wd hw 192 rfl) (wd hw 2 rfl) (by decide) (by decide)) (kc := 0) (ks := 0) (by decide) (by decide) all0 (fun _ => sf0) fun v519 T519 h519 L519 A519 K519 q519 => ?_
            obtain ⟨rfl, hh519⟩ := q519
            obtain rfl := hh519.symm
            show Wp pG e below _ T519 (mkF m 45 _ [(.int c0)])
            refine f_bipush A519 at_45 (pc' := 47) rfl 46 rfl ?_
            refine f_icN A519 at_47 (feq q0).1 (pc' := 50) rfl ?_
            refine f_iload A519 at_50 (pc' := 52) rfl rfl ?_
            refine f_iconst A519 at_52 (pc' := 53) rfl 1 rfl ?_
            refine f_icN A519 at_53 (tlt (by decide : (1 : Int32) < (3 : Int32))).2.2.2 (pc' := 56) rfl ?_
            refine f_iloadN A519 at_56 (pc' := 57) rfl rfl ?_
            refine f_iconst A519 at_57 (pc' := 58) rfl 1 rfl ?_
            refine f_callS A519 at_58 (pc' := 61) rfl (wd hw 190 rfl) (wd hw 191 rfl) (wd hw 2 rfl) (wd hw 192 rfl) (by decide) pd16 [(.int rb), (.int (1 : Int32))] [] rfl rfl rfl 0 (Nat.le_of_eq rfl) (CN.pay (W := 0) A519 (m_ch l Z a0 hw rb (1 : Int32) c1 h517 n0 A519.old hc1) (wd hw 192 rfl) (wd hw 2 rfl) (by decide) (by decide)) (kc := 0) (ks := 0) (by decide) (by decide) all0 (fun _ => sf0) fun v520 T520 h520 L520 A520 K520 q520 => ?_
            obtain ⟨rfl, hh520⟩ := q520
            obtain rfl := hh520.symm
            show Wp pG e below _ T520 (mkF m 61 _ [(.int c1)])
            refine f_bipush A520 at_61 (pc' := 63) rfl 46 rfl ?_
            refine f_icN A520 at_63 (feq q1).1 (pc' := 66) rfl ?_
            refine f_iload A520 at_66 (pc' := 68) rfl rfl ?_
            refine f_iconst A520 at_68 (pc' := 69) rfl 2 rfl ?_
            refine f_icN A520 at_69 (tlt (by decide : (2 : Int32) < (3 : Int32))).2.2.2 (pc' := 72) rfl ?_
            refine f_iloadN A520 at_72 (pc' := 73) rfl rfl ?_
            refine f_iconst A520 at_73 (pc' := 74) rfl 2 rfl ?_
            refine f_callS A520 at_74 (pc' := 77) rfl (wd hw 190 rfl) (wd hw 191 rfl) (wd hw 2 rfl) (wd hw 192 rfl) (by decide) pd16 [(.int rb), (.int (2 : Int32))] [] rfl rfl rfl 0 (Nat.le_of_eq rfl) (CN.pay (W := 0) A520 (m_ch l Z a0 hw rb (2 : Int32) c2 h517 n0 A520.old hc2) (wd hw 192 rfl) (wd hw 2 rfl) (by decide) (by decide)) (kc := 0) (ks := 0) (by decide) (by decide) all0 (fun _ => sf0) fun v521 T521 h521 L521 A521 K521 q521 => ?_
            obtain ⟨rfl, hh521⟩ := q521
            obtain rfl := hh521.symm
            show Wp pG e below _ T521 (mkF m 77 _ [(.int c2)])
            refine f_bipush A521 at_77 (pc' := 79) rfl 46 rfl ?_
            refine f_icN A521 at_79 (teq q2).2 (pc' := 82) rfl ?_
            refine f_iconst A521 at_82 (pc' := 83) rfl 1 rfl ?_
            refine f_goto A521 at_83 (pc' := 87) (by decide) (by decide) ?_
            refine f_istore A521 at_87 (pc' := 89) rfl (L' := #[.val (.int lens), .val (.int nb), .val (.int rb), .val (.int (1 : Int32)), .val (.int (3 : Int32)), .val (.ref x502), .val (.ref x504), .val (.ref x504), .val (.int (1 : Int32)), .unset]) rfl ?_
            refine f_iload A521 at_89 (pc' := 91) rfl rfl ?_
            refine f_ifN A521 at_91 ((if0 _ _).trans (feq (by decide : ¬ (1 : Int32) = (0 : Int32))).1) (pc' := 94) rfl ?_
            refine f_aload A521 at_94 (pc' := 96) rfl rfl rfl ?_
            refine f_aload A521 at_96 (pc' := 98) rfl rfl rfl ?_
            have c523 := (G504.exa.keep K517)
            refine f_callV A521 (a := x504) at_98 (pc' := 101) rfl (wd hw 206 rfl) (wd hw 207 rfl) (nfS A521 (wd hw 209 rfl)) (wd hw 209 rfl) (wd hw 208 rfl) (by decide) c523 pd28 [(.ref x504)] [] rfl rfl rfl 0 (Nat.le_of_eq rfl) (CN.pay (W := 0) A521 (m_eqself l Z a0 hw x504 h517 n0 A521.old) (wd hw 210 rfl) (wd hw 6 rfl) (by decide) (by decide)) (kc := 0) (ks := 0) (by decide) (by decide) all0 (fun _ => sf0) fun v522 T522 h522 L522 A522 K522 q522 => ?_
            obtain ⟨rfl, hh522⟩ := q522
            obtain rfl := hh522.symm
            show Wp pG e below _ T522 (mkF m 101 _ [(.int (1 : Int32))])
            exact f_retBW A522 hEL hlk hret at_101 (by decide) (1 : Int32) (by decide) (by decide) (by decide) Q518 rfl
          · refine f_aload A504 at_26 (pc' := 28) rfl rfl rfl ?_
            refine f_aload A504 at_28 (pc' := 30) rfl rfl rfl ?_
            have c524 := (G502.keep K504 nin0 nin0)
            refine f_callSW A504 at_30 (pc' := 33) rfl (wd hw 26 rfl) (wd hw 27 rfl) (wd hw 28 rfl) (wd hw 29 rfl) (by decide) pd26 [(.ref x502), (.ref x504)] [] rfl rfl rfl 0 (Nat.le_of_eq rfl) (CW.pay (W := 0) A504 hEL (m_qn3 l Z a0 hw x502 t502 x504 t504 [e0] c0 c1 c2 zc O2 P5 h504 n0 A504.old hEL c524 G504 (lc s0 ln) (Nat.le_of_ble_eq_true rfl) r0 r1 r2 (by simp [idxD, *])) (wd hw 29 rfl) (wd hw 28 rfl) (by decide) (by decide) (fun _ q => nomatch q)) (kc := 9) (ks := 150) (by decide) (by decide) all0 fun v525 vm525 T525 h525 L525 A525 K525 C525 q525 => ?_
            have Q526 : Keep h0 h525 [] := Q505.trans K525 all0
            obtain ⟨a525, b525, rfl, ag525, G525⟩ := q525
            have G525 : Str Z h525 a525 b525 [e0, (46 : Int32), c0, c1, c2] := G525
            show Wp pG e below _ T525 (mkF m 33 _ [(.ref a525)])
            refine f_astore A525 at_33 (pc' := 35) rfl rfl (L' := #[.val (.int lens), .val (.int nb), .val (.int rb), .val (.int (1 : Int32)), .val (.int (3 : Int32)), .val (.ref x502), .val (.ref x504), .val (.ref a525), .unset, .unset]) rfl ?_
            refine f_iload A525 at_35 (pc' := 37) rfl rfl ?_
            refine f_ifN A525 at_37 ((if0 _ _).trans (tlt (by decide : (0 : Int32) < (3 : Int32))).2.2.2) (pc' := 40) rfl ?_
            refine f_iloadN A525 at_40 (pc' := 41) rfl rfl ?_
            refine f_iconst A525 at_41 (pc' := 42) rfl 0 rfl ?_
            refine f_callS A525 at_42 (pc' := 45) rfl (wd hw 190 rfl) (wd hw 191 rfl) (wd hw 2 rfl) (wd hw 192 rfl) (by decide) pd16 [(.int rb), (.int (0 : Int32))] [] rfl rfl rfl 0 (Nat.le_of_eq rfl) (CN.pay (W := 0) A525 (m_ch l Z a0 hw rb (0 : Int32) c0 h525 n0 A525.old hc0) (wd hw 192 rfl) (wd hw 2 rfl) (by decide) (by decide)) (kc := 0) (ks := 0) (by decide) (by decide) all0 (fun _ => sf0) fun v527 T527 h527 L527 A527 K527 q527 => ?_
            obtain ⟨rfl, hh527⟩ := q527
            obtain rfl := hh527.symm
            show Wp pG e below _ T527 (mkF m 45 _ [(.int c0)])
            refine f_bipush A527 at_45 (pc' := 47) rfl 46 rfl ?_
            refine f_icN A527 at_47 (feq q0).1 (pc' := 50) rfl ?_
            refine f_iload A527 at_50 (pc' := 52) rfl rfl ?_
            refine f_iconst A527 at_52 (pc' := 53) rfl 1 rfl ?_
            refine f_icN A527 at_53 (tlt (by decide : (1 : Int32) < (3 : Int32))).2.2.2 (pc' := 56) rfl ?_
            refine f_iloadN A527 at_56 (pc' := 57) rfl rfl ?_
            refine f_iconst A527 at_57 (pc' := 58) rfl 1 rfl ?_
            refine f_callS A527 at_58 (pc' := 61) rfl (wd hw 190 rfl) (wd hw 191 rfl) (wd hw 2 rfl) (wd hw 192 rfl) (by decide) pd16 [(.int rb), (.int (1 : Int32))] [] rfl rfl rfl 0 (Nat.le_of_eq rfl) (CN.pay (W := 0) A527 (m_ch l Z a0 hw rb (1 : Int32) c1 h525 n0 A527.old hc1) (wd hw 192 rfl) (wd hw 2 rfl) (by decide) (by decide)) (kc := 0) (ks := 0) (by decide) (by decide) all0 (fun _ => sf0) fun v528 T528 h528 L528 A528 K528 q528 => ?_
            obtain ⟨rfl, hh528⟩ := q528
            obtain rfl := hh528.symm
            show Wp pG e below _ T528 (mkF m 61 _ [(.int c1)])
            refine f_bipush A528 at_61 (pc' := 63) rfl 46 rfl ?_
            refine f_icN A528 at_63 (feq q1).1 (pc' := 66) rfl ?_
            refine f_iload A528 at_66 (pc' := 68) rfl rfl ?_
            refine f_iconst A528 at_68 (pc' := 69) rfl 2 rfl ?_
            refine f_icN A528 at_69 (tlt (by decide : (2 : Int32) < (3 : Int32))).2.2.2 (pc' := 72) rfl ?_
            refine f_iloadN A528 at_72 (pc' := 73) rfl rfl ?_
            refine f_iconst A528 at_73 (pc' := 74) rfl 2 rfl ?_
            refine f_callS A528 at_74 (pc' := 77) rfl (wd hw 190 rfl) (wd hw 191 rfl) (wd hw 2 rfl) (wd hw 192 rfl) (by decide) pd16 [(.int rb), (.int (2 : Int32))] [] rfl rfl rfl 0 (Nat.le_of_eq rfl) (CN.pay (W := 0) A528 (m_ch l Z a0 hw rb (2 : Int32) c2 h525 n0 A528.old hc2) (wd hw 192 rfl) (wd hw 2 rfl) (by decide) (by decide)) (kc := 0) (ks := 0) (by decide) (by decide) all0 (fun _ => sf0) fun v529 T529 h529 L529 A529 K529 q529 => ?_
            obtain ⟨rfl, hh529⟩ := q529
            obtain rfl := hh529.symm
            show Wp pG e below _ T529 (mkF m 77 _ [(.int c2)])
            refine f_bipush A529 at_77 (pc' := 79) rfl 46 rfl ?_
            refine f_icY A529 at_79 (feq q2).2 (pc' := 86) (by decide) (by decide) ?_
            refine f_iconst A529 at_86 (pc' := 87) rfl 0 rfl ?_
            refine f_istore A529 at_87 (pc' := 89) rfl (L' := #[.val (.int lens), .val (.int nb), .val (.int rb), .val (.int (1 : Int32)), .val (.int (3 : Int32)), .val (.ref x502), .val (.ref x504), .val (.ref a525), .val (.int (0 : Int32)), .unset]) rfl ?_
            refine f_iload A529 at_89 (pc' := 91) rfl rfl ?_
            refine f_ifY A529 at_91 ((if0 _ _).trans (teq (by decide : (0 : Int32) = (0 : Int32))).1) (pc' := 102) (by decide) (by decide) ?_
            refine f_iloadN A529 at_102 (pc' := 103) rfl rfl ?_
            refine f_iconst A529 at_103 (pc' := 104) rfl 1 rfl ?_
            refine f_iadd A529 at_104 (pc' := 105) rfl (2 : Int32) (by decide) ?_
            refine f_iload A529 at_105 (pc' := 107) rfl rfl ?_
            refine f_iadd A529 at_107 (pc' := 108) rfl (5 : Int32) (by decide) ?_
            refine f_istore A529 at_108 (pc' := 110) rfl (L' := #[.val (.int lens), .val (.int nb), .val (.int rb), .val (.int (1 : Int32)), .val (.int (3 : Int32)), .val (.ref x502), .val (.ref x504), .val (.ref a525), .val (.int (0 : Int32)), .val (.int (5 : Int32))]) rfl ?_
            refine f_aload A529 at_110 (pc' := 112) rfl rfl rfl ?_
            refine f_callV A529 (a := a525) at_112 (pc' := 115) rfl (wd hw 170 rfl) (wd hw 94 rfl) (nfS A529 (wd hw 96 rfl)) (wd hw 96 rfl) (wd hw 95 rfl) (by decide) G525.exa pd5 [] [] rfl rfl rfl 0 (Nat.le_of_eq rfl) (payLen (W := 0) A529 hw (wd hw 5 rfl) G525 O2 P5 (by decide) (by decide)) (kc := 0) (ks := 0) (by decide) (by decide) all0 (fun _ => sf0) fun v530 T530 h530 L530 A530 K530 q530 => ?_
            obtain ⟨rfl, hh530⟩ := q530
            obtain rfl := hh530.symm
            show Wp pG e below _ T530 (mkF m 115 _ [(.int (5 : Int32))])
            refine f_iload A530 at_115 (pc' := 117) rfl rfl ?_
            refine f_icY A530 at_117 (teq (by decide : (5 : Int32) = (5 : Int32))).1 (pc' := 122) (by decide) (by decide) ?_
            refine f_aload A530 at_122 (pc' := 124) rfl rfl rfl ?_
            refine f_iconst A530 at_124 (pc' := 125) rfl 0 rfl ?_
            refine f_iload A530 at_125 (pc' := 127) rfl rfl ?_
            refine f_iloadN A530 at_127 (pc' := 128) rfl rfl ?_
            refine f_iloadN A530 at_128 (pc' := 129) rfl rfl ?_
            refine f_iloadN A530 at_129 (pc' := 130) rfl rfl ?_
            refine f_callS A530 at_130 (pc' := 133) rfl (wd hw 171 rfl) (wd hw 172 rfl) (wd hw 2 rfl) (wd hw 173 rfl) (by decide) pd27 [(.ref a525), (.int (0 : Int32)), (.int (5 : Int32)), (.int (1 : Int32)), (.int nb), (.int rb)] [] rfl rfl rfl 0 (Nat.le_of_eq rfl) (CN.pay (W := 0) A530 (m_okN l Z a0 hw a525 (0 : Int32) (5 : Int32) (1 : Int32) nb rb b525 [e0, (46 : Int32), c0, c1, c2] 0 e0 zc O2 P5 fm O4 rG3 h525 n0 A530.old G525 (lat2 (lc s0 (lc (by decide) (lc r0 (lc r1 (lc r2 ln)))))) (Nat.le_of_ble_eq_true rfl) rfl rfl (by decide) (by decide) he0) (wd hw 173 rfl) (wd hw 2 rfl) (by decide) (by decide)) (kc := 0) (ks := 0) (by decide) (by decide) all0 (fun _ => sf0) fun v531 T531 h531 L531 A531 K531 q531 => ?_
            obtain ⟨rfl, hh531⟩ := q531
            obtain rfl := hh531.symm
            show Wp pG e below _ T531 (mkF m 133 _ [(.int (1 : Int32))])
            refine f_ifN A531 at_133 ((if0 _ _).trans (feq (by decide : ¬ (1 : Int32) = (0 : Int32))).1) (pc' := 136) rfl ?_
            refine f_aload A531 at_136 (pc' := 138) rfl rfl rfl ?_
            refine f_iconst A531 at_138 (pc' := 139) rfl 1 rfl ?_
            refine f_iload A531 at_139 (pc' := 141) rfl rfl ?_
            refine f_iloadN A531 at_141 (pc' := 142) rfl rfl ?_
            refine f_iloadN A531 at_142 (pc' := 143) rfl rfl ?_
            refine f_iloadN A531 at_143 (pc' := 144) rfl rfl ?_
            refine f_callS A531 at_144 (pc' := 147) rfl (wd hw 171 rfl) (wd hw 172 rfl) (wd hw 2 rfl) (wd hw 173 rfl) (by decide) pd27 [(.ref a525), (.int (1 : Int32)), (.int (5 : Int32)), (.int (1 : Int32)), (.int nb), (.int rb)] [] rfl rfl rfl 0 (Nat.le_of_eq rfl) (CN.pay (W := 0) A531 (m_okD l Z a0 hw a525 (1 : Int32) (5 : Int32) (1 : Int32) nb rb b525 [e0, (46 : Int32), c0, c1, c2] 1 (46 : Int32) zc O2 P5 fm O4 rG3 h525 n0 A531.old G525 (lat2 (lc s0 (lc (by decide) (lc r0 (lc r1 (lc r2 ln)))))) (Nat.le_of_ble_eq_true rfl) rfl rfl (by decide) rfl (by decide) rfl) (wd hw 173 rfl) (wd hw 2 rfl) (by decide) (by decide)) (kc := 0) (ks := 0) (by decide) (by decide) all0 (fun _ => sf0) fun v532 T532 h532 L532 A532 K532 q532 => ?_
            obtain ⟨rfl, hh532⟩ := q532
            obtain rfl := hh532.symm
            show Wp pG e below _ T532 (mkF m 147 _ [(.int (1 : Int32))])
            refine f_ifN A532 at_147 ((if0 _ _).trans (feq (by decide : ¬ (1 : Int32) = (0 : Int32))).1) (pc' := 150) rfl ?_
            refine f_aload A532 at_150 (pc' := 152) rfl rfl rfl ?_
            refine f_iconst A532 at_152 (pc' := 153) rfl 2 rfl ?_
            refine f_iload A532 at_153 (pc' := 155) rfl rfl ?_
            refine f_iloadN A532 at_155 (pc' := 156) rfl rfl ?_
            refine f_iloadN A532 at_156 (pc' := 157) rfl rfl ?_
            refine f_iloadN A532 at_157 (pc' := 158) rfl rfl ?_
            refine f_callS A532 at_158 (pc' := 161) rfl (wd hw 171 rfl) (wd hw 172 rfl) (wd hw 2 rfl) (wd hw 173 rfl) (by decide) pd27 [(.ref a525), (.int (2 : Int32)), (.int (5 : Int32)), (.int (1 : Int32)), (.int nb), (.int rb)] [] rfl rfl rfl 0 (Nat.le_of_eq rfl) (CN.pay (W := 0) A532 (m_okR l Z a0 hw a525 (2 : Int32) (5 : Int32) (1 : Int32) nb rb b525 [e0, (46 : Int32), c0, c1, c2] 2 c0 zc O2 P5 fm O4 rG3 h525 n0 A532.old G525 (lat2 (lc s0 (lc (by decide) (lc r0 (lc r1 (lc r2 ln)))))) (Nat.le_of_ble_eq_true rfl) rfl rfl (by decide) (by decide) (by decide) hc0) (wd hw 173 rfl) (wd hw 2 rfl) (by decide) (by decide)) (kc := 0) (ks := 0) (by decide) (by decide) all0 (fun _ => sf0) fun v533 T533 h533 L533 A533 K533 q533 => ?_
            obtain ⟨rfl, hh533⟩ := q533
            obtain rfl := hh533.symm
            show Wp pG e below _ T533 (mkF m 161 _ [(.int (1 : Int32))])
            refine f_ifN A533 at_161 ((if0 _ _).trans (feq (by decide : ¬ (1 : Int32) = (0 : Int32))).1) (pc' := 164) rfl ?_
            refine f_aload A533 at_164 (pc' := 166) rfl rfl rfl ?_
            refine f_iconst A533 at_166 (pc' := 167) rfl 3 rfl ?_
            refine f_iload A533 at_167 (pc' := 169) rfl rfl ?_
            refine f_iloadN A533 at_169 (pc' := 170) rfl rfl ?_
            refine f_iloadN A533 at_170 (pc' := 171) rfl rfl ?_
            refine f_iloadN A533 at_171 (pc' := 172) rfl rfl ?_
            refine f_callS A533 at_172 (pc' := 175) rfl (wd hw 171 rfl) (wd hw 172 rfl) (wd hw 2 rfl) (wd hw 173 rfl) (by decide) pd27 [(.ref a525), (.int (3 : Int32)), (.int (5 : Int32)), (.int (1 : Int32)), (.int nb), (.int rb)] [] rfl rfl rfl 0 (Nat.le_of_eq rfl) (CN.pay (W := 0) A533 (m_okR l Z a0 hw a525 (3 : Int32) (5 : Int32) (1 : Int32) nb rb b525 [e0, (46 : Int32), c0, c1, c2] 3 c1 zc O2 P5 fm O4 rG3 h525 n0 A533.old G525 (lat2 (lc s0 (lc (by decide) (lc r0 (lc r1 (lc r2 ln)))))) (Nat.le_of_ble_eq_true rfl) rfl rfl (by decide) (by decide) (by decide) hc1) (wd hw 173 rfl) (wd hw 2 rfl) (by decide) (by decide)) (kc := 0) (ks := 0) (by decide) (by decide) all0 (fun _ => sf0) fun v534 T534 h534 L534 A534 K534 q534 => ?_
            obtain ⟨rfl, hh534⟩ := q534
            obtain rfl := hh534.symm
            show Wp pG e below _ T534 (mkF m 175 _ [(.int (1 : Int32))])
            refine f_ifN A534 at_175 ((if0 _ _).trans (feq (by decide : ¬ (1 : Int32) = (0 : Int32))).1) (pc' := 178) rfl ?_
            refine f_aload A534 at_178 (pc' := 180) rfl rfl rfl ?_
            refine f_iconst A534 at_180 (pc' := 181) rfl 4 rfl ?_
            refine f_iload A534 at_181 (pc' := 183) rfl rfl ?_
            refine f_iloadN A534 at_183 (pc' := 184) rfl rfl ?_
            refine f_iloadN A534 at_184 (pc' := 185) rfl rfl ?_
            refine f_iloadN A534 at_185 (pc' := 186) rfl rfl ?_
            refine f_callS A534 at_186 (pc' := 189) rfl (wd hw 171 rfl) (wd hw 172 rfl) (wd hw 2 rfl) (wd hw 173 rfl) (by decide) pd27 [(.ref a525), (.int (4 : Int32)), (.int (5 : Int32)), (.int (1 : Int32)), (.int nb), (.int rb)] [] rfl rfl rfl 0 (Nat.le_of_eq rfl) (CN.pay (W := 0) A534 (m_okR l Z a0 hw a525 (4 : Int32) (5 : Int32) (1 : Int32) nb rb b525 [e0, (46 : Int32), c0, c1, c2] 4 c2 zc O2 P5 fm O4 rG3 h525 n0 A534.old G525 (lat2 (lc s0 (lc (by decide) (lc r0 (lc r1 (lc r2 ln)))))) (Nat.le_of_ble_eq_true rfl) rfl rfl (by decide) (by decide) (by decide) hc2) (wd hw 173 rfl) (wd hw 2 rfl) (by decide) (by decide)) (kc := 0) (ks := 0) (by decide) (by decide) all0 (fun _ => sf0) fun v535 T535 h535 L535 A535 K535 q535 => ?_
            obtain ⟨rfl, hh535⟩ := q535
            obtain rfl := hh535.symm
            show Wp pG e below _ T535 (mkF m 189 _ [(.int (1 : Int32))])
            refine f_ifN A535 at_189 ((if0 _ _).trans (feq (by decide : ¬ (1 : Int32) = (0 : Int32))).1) (pc' := 192) rfl ?_
            refine f_aload A535 at_192 (pc' := 194) rfl rfl rfl ?_
            refine f_iconst A535 at_194 (pc' := 195) rfl 5 rfl ?_
            refine f_iload A535 at_195 (pc' := 197) rfl rfl ?_
            refine f_iloadN A535 at_197 (pc' := 198) rfl rfl ?_
            refine f_iloadN A535 at_198 (pc' := 199) rfl rfl ?_
            refine f_iloadN A535 at_199 (pc' := 200) rfl rfl ?_
            refine f_callS A535 at_200 (pc' := 203) rfl (wd hw 171 rfl) (wd hw 172 rfl) (wd hw 2 rfl) (wd hw 173 rfl) (by decide) pd27 [(.ref a525), (.int (5 : Int32)), (.int (5 : Int32)), (.int (1 : Int32)), (.int nb), (.int rb)] [] rfl rfl rfl 0 (Nat.le_of_eq rfl) (CN.pay (W := 0) A535 (m_okO l Z a0 hw a525 (5 : Int32) (5 : Int32) (1 : Int32) nb rb h525 n0 A535.old (by decide)) (wd hw 173 rfl) (wd hw 2 rfl) (by decide) (by decide)) (kc := 0) (ks := 0) (by decide) (by decide) all0 (fun _ => sf0) fun v536 T536 h536 L536 A536 K536 q536 => ?_
            obtain ⟨rfl, hh536⟩ := q536
            obtain rfl := hh536.symm
            show Wp pG e below _ T536 (mkF m 203 _ [(.int (1 : Int32))])
            refine f_ifN A536 at_203 ((if0 _ _).trans (feq (by decide : ¬ (1 : Int32) = (0 : Int32))).1) (pc' := 206) rfl ?_
            refine f_aload A536 at_206 (pc' := 208) rfl rfl rfl ?_
            refine f_bipush A536 at_208 (pc' := 210) rfl 6 rfl ?_
            refine f_iload A536 at_210 (pc' := 212) rfl rfl ?_
            refine f_iloadN A536 at_212 (pc' := 213) rfl rfl ?_
            refine f_iloadN A536 at_213 (pc' := 214) rfl rfl ?_
            refine f_iloadN A536 at_214 (pc' := 215) rfl rfl ?_
            refine f_callS A536 at_215 (pc' := 218) rfl (wd hw 171 rfl) (wd hw 172 rfl) (wd hw 2 rfl) (wd hw 173 rfl) (by decide) pd27 [(.ref a525), (.int (6 : Int32)), (.int (5 : Int32)), (.int (1 : Int32)), (.int nb), (.int rb)] [] rfl rfl rfl 0 (Nat.le_of_eq rfl) (CN.pay (W := 0) A536 (m_okO l Z a0 hw a525 (6 : Int32) (5 : Int32) (1 : Int32) nb rb h525 n0 A536.old (by decide)) (wd hw 173 rfl) (wd hw 2 rfl) (by decide) (by decide)) (kc := 0) (ks := 0) (by decide) (by decide) all0 (fun _ => sf0) fun v537 T537 h537 L537 A537 K537 q537 => ?_
            obtain ⟨rfl, hh537⟩ := q537
            obtain rfl := hh537.symm
            show Wp pG e below _ T537 (mkF m 218 _ [(.int (1 : Int32))])
            refine f_ifN A537 at_218 ((if0 _ _).trans (feq (by decide : ¬ (1 : Int32) = (0 : Int32))).1) (pc' := 221) rfl ?_
            refine f_iconst A537 at_221 (pc' := 222) rfl 1 rfl ?_
            refine f_goto A537 at_222 (pc' := 226) (by decide) (by decide) ?_
            exact f_retBW A537 hEL hlk hret at_226 (by decide) (1 : Int32) (by decide) (by decide) (by decide) Q526 rfl
  · rcases hn4 with rfl | rfl | rfl | rfl
    · refine f_iloadN A0 at_0 (pc' := 1) rfl rfl ?_
      refine f_iconst A0 at_1 (pc' := 2) rfl 3 rfl ?_
      refine f_iand A0 at_2 (pc' := 3) rfl (2 : Int32) hm0 ?_
      refine f_istoreN A0 at_3 (pc' := 4) rfl (L' := #[.val (.int lens), .val (.int nb), .val (.int rb), .val (.int (2 : Int32)), .unset, .unset, .unset, .unset, .unset, .unset]) rfl ?_
      refine f_iloadN A0 at_4 (pc' := 5) rfl rfl ?_
      refine f_iconst A0 at_5 (pc' := 6) rfl 2 rfl ?_
      refine f_iushr A0 at_6 (pc' := 7) rfl ((lens.toUInt32 >>> ((2 : Int32) &&& 31).toUInt32).toInt32) rfl ?_
      refine f_iconst A0 at_7 (pc' := 8) rfl 3 rfl ?_
      refine f_iand A0 at_8 (pc' := 9) rfl (0 : Int32) hn1 ?_
      refine f_istore A0 at_9 (pc' := 11) rfl (L' := #[.val (.int lens), .val (.int nb), .val (.int rb), .val (.int (2 : Int32)), .val (.int (0 : Int32)), .unset, .unset, .unset, .unset, .unset]) rfl ?_
      refine f_iloadN A0 at_11 (pc' := 12) rfl rfl ?_
      refine f_iloadN A0 at_12 (pc' := 13) rfl rfl ?_
      refine f_callSW A0 at_13 (pc' := 16) rfl (wd hw 0 rfl) (wd hw 1 rfl) (wd hw 2 rfl) (wd hw 3 rfl) (by decide) pd25 [(.int (2 : Int32)), (.int nb)] [] rfl rfl rfl 0 (Nat.le_of_eq rfl) (CW.pay (W := 0) A0 hEL (m_str2 l Z a0 hw nb e0 e1 e2 zc O2 P5 h0 n0 A0.old hEL he0 s0 he1 s1 he2 s2) (wd hw 3 rfl) (wd hw 2 rfl) (by decide) (by decide) (fun _ q => nomatch q)) (kc := 4) (ks := 14) (by decide) (by decide) all0 fun v538 vm538 T538 h538 L538 A538 K538 C538 q538 => ?_
      have Q539 : Keep h0 h538 [] := K0.trans K538 all0
      obtain ⟨x538, t538, rfl, xg538, G538⟩ := q538
      show Wp pG e below _ T538 (mkF m 16 _ [(.ref x538)])
      refine f_astore A538 at_16 (pc' := 18) rfl rfl (L' := #[.val (.int lens), .val (.int nb), .val (.int rb), .val (.int (2 : Int32)), .val (.int (0 : Int32)), .val (.ref x538), .unset, .unset, .unset, .unset]) rfl ?_
      refine f_iload A538 at_18 (pc' := 20) rfl rfl ?_
      refine f_iloadN A538 at_20 (pc' := 21) rfl rfl ?_
      refine f_callSW A538 at_21 (pc' := 24) rfl (wd hw 0 rfl) (wd hw 1 rfl) (wd hw 2 rfl) (wd hw 3 rfl) (by decide) pd25 [(.int (0 : Int32)), (.int rb)] [] rfl rfl rfl 0 (Nat.le_of_eq rfl) (CW.pay (W := 0) A538 hEL (m_str0 l Z a0 hw rb c0 c1 c2 zc O2 P5 h538 n0 A538.old hEL hc0 r0 hc1 r1 hc2 r2) (wd hw 3 rfl) (wd hw 2 rfl) (by decide) (by decide) (fun _ q => nomatch q)) (kc := 4) (ks := 14) (by decide) (by decide) all0 fun v540 vm540 T540 h540 L540 A540 K540 C540 q540 => ?_
      have Q541 : Keep h0 h540 [] := Q539.trans K540 all0
      obtain ⟨x540, t540, rfl, xg540, G540⟩ := q540
      show Wp pG e below _ T540 (mkF m 24 _ [(.ref x540)])
      refine f_astore A540 at_24 (pc' := 26) rfl rfl (L' := #[.val (.int lens), .val (.int nb), .val (.int rb), .val (.int (2 : Int32)), .val (.int (0 : Int32)), .val (.ref x538), .val (.ref x540), .unset, .unset, .unset]) rfl ?_
      refine f_aload A540 at_26 (pc' := 28) rfl rfl rfl ?_
      refine f_aload A540 at_28 (pc' := 30) rfl rfl rfl ?_
      have c542 := (G538.keep K540 nin0 nin0)
      refine f_callSW A540 at_30 (pc' := 33) rfl (wd hw 26 rfl) (wd hw 27 rfl) (wd hw 28 rfl) (wd hw 29 rfl) (by decide) pd26 [(.ref x538), (.ref x540)] [] rfl rfl rfl 0 (Nat.le_of_eq rfl) (CW.pay (W := 0) A540 hEL (m_qn0 l Z a0 hw x538 t538 x540 t540 [e0, e1]  zc O2 P5 h540 n0 A540.old hEL c542 G540 (lc s0 (lc s1 ln)) (Nat.le_of_ble_eq_true rfl)  (by simp [idxD, *])) (wd hw 29 rfl) (wd hw 28 rfl) (by decide) (by decide) (fun _ q => nomatch q)) (kc := 9) (ks := 150) (by decide) (by decide) all0 fun v543 vm543 T543 h543 L543 A543 K543 C543 q543 => ?_
      have Q544 : Keep h0 h543 [] := Q541.trans K543 all0
      obtain ⟨a543, b543, rfl, ag543, G543⟩ := q543
      have G543 : Str Z h543 a543 b543 [e0, e1, (46 : Int32)] := G543
      show Wp pG e below _ T543 (mkF m 33 _ [(.ref a543)])
      refine f_astore A543 at_33 (pc' := 35) rfl rfl (L' := #[.val (.int lens), .val (.int nb), .val (.int rb), .val (.int (2 : Int32)), .val (.int (0 : Int32)), .val (.ref x538), .val (.ref x540), .val (.ref a543), .unset, .unset]) rfl ?_
      refine f_iload A543 at_35 (pc' := 37) rfl rfl ?_
      refine f_ifY A543 at_37 ((if0 _ _).trans (flt (by decide : ¬ (0 : Int32) < (0 : Int32))).2.2.2) (pc' := 50) (by decide) (by decide) ?_
      refine f_iload A543 at_50 (pc' := 52) rfl rfl ?_
      refine f_iconst A543 at_52 (pc' := 53) rfl 1 rfl ?_
      refine f_icY A543 at_53 (flt (by decide : ¬ (1 : Int32) < (0 : Int32))).2.2.2 (pc' := 66) (by decide) (by decide) ?_
      refine f_iload A543 at_66 (pc' := 68) rfl rfl ?_
      refine f_iconst A543 at_68 (pc' := 69) rfl 2 rfl ?_
      refine f_icY A543 at_69 (flt (by decide : ¬ (2 : Int32) < (0 : Int32))).2.2.2 (pc' := 86) (by decide) (by decide) ?_
      refine f_iconst A543 at_86 (pc' := 87) rfl 0 rfl ?_
      refine f_istore A543 at_87 (pc' := 89) rfl (L' := #[.val (.int lens), .val (.int nb), .val (.int rb), .val (.int (2 : Int32)), .val (.int (0 : Int32)), .val (.ref x538), .val (.ref x540), .val (.ref a543), .val (.int (0 : Int32)), .unset]) rfl ?_
      refine f_iload A543 at_89 (pc' := 91) rfl rfl ?_
      refine f_ifY A543 at_91 ((if0 _ _).trans (teq (by decide : (0 : Int32) = (0 : Int32))).1) (pc' := 102) (by decide) (by decide) ?_
      refine f_iloadN A543 at_102 (pc' := 103) rfl rfl ?_
      refine f_iconst A543 at_103 (pc' := 104) rfl 1 rfl ?_
      refine f_iadd A543 at_104 (pc' := 105) rfl (3 : Int32) (by decide) ?_
      refine f_iload A543 at_105 (pc' := 107) rfl rfl ?_
      refine f_iadd A543 at_107 (pc' := 108) rfl (3 : Int32) (by decide) ?_
      refine f_istore A543 at_108 (pc' := 110) rfl (L' := #[.val (.int lens), .val (.int nb), .val (.int rb), .val (.int (2 : Int32)), .val (.int (0 : Int32)), .val (.ref x538), .val (.ref x540), .val (.ref a543), .val (.int (0 : Int32)), .val (.int (3 : Int32))]) rfl ?_
      refine f_aload A543 at_110 (pc' := 112) rfl rfl rfl ?_
      refine f_callV A543 (a := a543) at_112 (pc' := 115) rfl (wd hw 170 rfl) (wd hw 94 rfl) (nfS A543 (wd hw 96 rfl)) (wd hw 96 rfl) (wd hw 95 rfl) (by decide) G543.exa pd5 [] [] rfl rfl rfl 0 (Nat.le_of_eq rfl) (payLen (W := 0) A543 hw (wd hw 5 rfl) G543 O2 P5 (by decide) (by decide)) (kc := 0) (ks := 0) (by decide) (by decide) all0 (fun _ => sf0) fun v545 T545 h545 L545 A545 K545 q545 => ?_
      obtain ⟨rfl, hh545⟩ := q545
      obtain rfl := hh545.symm
      show Wp pG e below _ T545 (mkF m 115 _ [(.int (3 : Int32))])
      refine f_iload A545 at_115 (pc' := 117) rfl rfl ?_
      refine f_icY A545 at_117 (teq (by decide : (3 : Int32) = (3 : Int32))).1 (pc' := 122) (by decide) (by decide) ?_
      refine f_aload A545 at_122 (pc' := 124) rfl rfl rfl ?_
      refine f_iconst A545 at_124 (pc' := 125) rfl 0 rfl ?_
      refine f_iload A545 at_125 (pc' := 127) rfl rfl ?_
      refine f_iloadN A545 at_127 (pc' := 128) rfl rfl ?_
      refine f_iloadN A545 at_128 (pc' := 129) rfl rfl ?_
      refine f_iloadN A545 at_129 (pc' := 130) rfl rfl ?_
      refine f_callS A545 at_130 (pc' := 133) rfl (wd hw 171 rfl) (wd hw 172 rfl) (wd hw 2 rfl) (wd hw 173 rfl) (by decide) pd27 [(.ref a543), (.int (0 : Int32)), (.int (3 : Int32)), (.int (2 : Int32)), (.int nb), (.int rb)] [] rfl rfl rfl 0 (Nat.le_of_eq rfl) (CN.pay (W := 0) A545 (m_okN l Z a0 hw a543 (0 : Int32) (3 : Int32) (2 : Int32) nb rb b543 [e0, e1, (46 : Int32)] 0 e0 zc O2 P5 fm O4 rG3 h543 n0 A545.old G543 (lat2 (lc s0 (lc s1 (lc (by decide) ln)))) (Nat.le_of_ble_eq_true rfl) rfl rfl (by decide) (by decide) he0) (wd hw 173 rfl) (wd hw 2 rfl) (by decide) (by decide)) (kc := 0) (ks := 0) (by decide) (by decide) all0 (fun _ => sf0) fun v546 T546 h546 L546 A546 K546 q546 => ?_
      obtain ⟨rfl, hh546⟩ := q546
      obtain rfl := hh546.symm
      show Wp pG e below _ T546 (mkF m 133 _ [(.int (1 : Int32))])
      refine f_ifN A546 at_133 ((if0 _ _).trans (feq (by decide : ¬ (1 : Int32) = (0 : Int32))).1) (pc' := 136) rfl ?_
      refine f_aload A546 at_136 (pc' := 138) rfl rfl rfl ?_
      refine f_iconst A546 at_138 (pc' := 139) rfl 1 rfl ?_
      refine f_iload A546 at_139 (pc' := 141) rfl rfl ?_
      refine f_iloadN A546 at_141 (pc' := 142) rfl rfl ?_
      refine f_iloadN A546 at_142 (pc' := 143) rfl rfl ?_
      refine f_iloadN A546 at_143 (pc' := 144) rfl rfl ?_
      refine f_callS A546 at_144 (pc' := 147) rfl (wd hw 171 rfl) (wd hw 172 rfl) (wd hw 2 rfl) (wd hw 173 rfl) (by decide) pd27 [(.ref a543), (.int (1 : Int32)), (.int (3 : Int32)), (.int (2 : Int32)), (.int nb), (.int rb)] [] rfl rfl rfl 0 (Nat.le_of_eq rfl) (CN.pay (W := 0) A546 (m_okN l Z a0 hw a543 (1 : Int32) (3 : Int32) (2 : Int32) nb rb b543 [e0, e1, (46 : Int32)] 1 e1 zc O2 P5 fm O4 rG3 h543 n0 A546.old G543 (lat2 (lc s0 (lc s1 (lc (by decide) ln)))) (Nat.le_of_ble_eq_true rfl) rfl rfl (by decide) (by decide) he1) (wd hw 173 rfl) (wd hw 2 rfl) (by decide) (by decide)) (kc := 0) (ks := 0) (by decide) (by decide) all0 (fun _ => sf0) fun v547 T547 h547 L547 A547 K547 q547 => ?_
      obtain ⟨rfl, hh547⟩ := q547
      obtain rfl := hh547.symm
      show Wp pG e below _ T547 (mkF m 147 _ [(.int (1 : Int32))])
      refine f_ifN A547 at_147 ((if0 _ _).trans (feq (by decide : ¬ (1 : Int32) = (0 : Int32))).1) (pc' := 150) rfl ?_
      refine f_aload A547 at_150 (pc' := 152) rfl rfl rfl ?_
      refine f_iconst A547 at_152 (pc' := 153) rfl 2 rfl ?_
      refine f_iload A547 at_153 (pc' := 155) rfl rfl ?_
      refine f_iloadN A547 at_155 (pc' := 156) rfl rfl ?_
      refine f_iloadN A547 at_156 (pc' := 157) rfl rfl ?_
      refine f_iloadN A547 at_157 (pc' := 158) rfl rfl ?_
      refine f_callS A547 at_158 (pc' := 161) rfl (wd hw 171 rfl) (wd hw 172 rfl) (wd hw 2 rfl) (wd hw 173 rfl) (by decide) pd27 [(.ref a543), (.int (2 : Int32)), (.int (3 : Int32)), (.int (2 : Int32)), (.int nb), (.int rb)] [] rfl rfl rfl 0 (Nat.le_of_eq rfl) (CN.pay (W := 0) A547 (m_okD l Z a0 hw a543 (2 : Int32) (3 : Int32) (2 : Int32) nb rb b543 [e0, e1, (46 : Int32)] 2 (46 : Int32) zc O2 P5 fm O4 rG3 h543 n0 A547.old G543 (lat2 (lc s0 (lc s1 (lc (by decide) ln)))) (Nat.le_of_ble_eq_true rfl) rfl rfl (by decide) rfl (by decide) rfl) (wd hw 173 rfl) (wd hw 2 rfl) (by decide) (by decide)) (kc := 0) (ks := 0) (by decide) (by decide) all0 (fun _ => sf0) fun v548 T548 h548 L548 A548 K548 q548 => ?_
      obtain ⟨rfl, hh548⟩ := q548
      obtain rfl := hh548.symm
      show Wp pG e below _ T548 (mkF m 161 _ [(.int (1 : Int32))])
      refine f_ifN A548 at_161 ((if0 _ _).trans (feq (by decide : ¬ (1 : Int32) = (0 : Int32))).1) (pc' := 164) rfl ?_
      refine f_aload A548 at_164 (pc' := 166) rfl rfl rfl ?_
      refine f_iconst A548 at_166 (pc' := 167) rfl 3 rfl ?_
      refine f_iload A548 at_167 (pc' := 169) rfl rfl ?_
      refine f_iloadN A548 at_169 (pc' := 170) rfl rfl ?_
      refine f_iloadN A548 at_170 (pc' := 171) rfl rfl ?_
      refine f_iloadN A548 at_171 (pc' := 172) rfl rfl ?_
      refine f_callS A548 at_172 (pc' := 175) rfl (wd hw 171 rfl) (wd hw 172 rfl) (wd hw 2 rfl) (wd hw 173 rfl) (by decide) pd27 [(.ref a543), (.int (3 : Int32)), (.int (3 : Int32)), (.int (2 : Int32)), (.int nb), (.int rb)] [] rfl rfl rfl 0 (Nat.le_of_eq rfl) (CN.pay (W := 0) A548 (m_okO l Z a0 hw a543 (3 : Int32) (3 : Int32) (2 : Int32) nb rb h543 n0 A548.old (by decide)) (wd hw 173 rfl) (wd hw 2 rfl) (by decide) (by decide)) (kc := 0) (ks := 0) (by decide) (by decide) all0 (fun _ => sf0) fun v549 T549 h549 L549 A549 K549 q549 => ?_
      obtain ⟨rfl, hh549⟩ := q549
      obtain rfl := hh549.symm
      show Wp pG e below _ T549 (mkF m 175 _ [(.int (1 : Int32))])
      refine f_ifN A549 at_175 ((if0 _ _).trans (feq (by decide : ¬ (1 : Int32) = (0 : Int32))).1) (pc' := 178) rfl ?_
      refine f_aload A549 at_178 (pc' := 180) rfl rfl rfl ?_
      refine f_iconst A549 at_180 (pc' := 181) rfl 4 rfl ?_
      refine f_iload A549 at_181 (pc' := 183) rfl rfl ?_
      refine f_iloadN A549 at_183 (pc' := 184) rfl rfl ?_
      refine f_iloadN A549 at_184 (pc' := 185) rfl rfl ?_
      refine f_iloadN A549 at_185 (pc' := 186) rfl rfl ?_
      refine f_callS A549 at_186 (pc' := 189) rfl (wd hw 171 rfl) (wd hw 172 rfl) (wd hw 2 rfl) (wd hw 173 rfl) (by decide) pd27 [(.ref a543), (.int (4 : Int32)), (.int (3 : Int32)), (.int (2 : Int32)), (.int nb), (.int rb)] [] rfl rfl rfl 0 (Nat.le_of_eq rfl) (CN.pay (W := 0) A549 (m_okO l Z a0 hw a543 (4 : Int32) (3 : Int32) (2 : Int32) nb rb h543 n0 A549.old (by decide)) (wd hw 173 rfl) (wd hw 2 rfl) (by decide) (by decide)) (kc := 0) (ks := 0) (by decide) (by decide) all0 (fun _ => sf0) fun v550 T550 h550 L550 A550 K550 q550 => ?_
      obtain ⟨rfl, hh550⟩ := q550
      obtain rfl := hh550.symm
      show Wp pG e below _ T550 (mkF m 189 _ [(.int (1 : Int32))])
      refine f_ifN A550 at_189 ((if0 _ _).trans (feq (by decide : ¬ (1 : Int32) = (0 : Int32))).1) (pc' := 192) rfl ?_
      refine f_aload A550 at_192 (pc' := 194) rfl rfl rfl ?_
      refine f_iconst A550 at_194 (pc' := 195) rfl 5 rfl ?_
      refine f_iload A550 at_195 (pc' := 197) rfl rfl ?_
      refine f_iloadN A550 at_197 (pc' := 198) rfl rfl ?_
      refine f_iloadN A550 at_198 (pc' := 199) rfl rfl ?_
      refine f_iloadN A550 at_199 (pc' := 200) rfl rfl ?_
      refine f_callS A550 at_200 (pc' := 203) rfl (wd hw 171 rfl) (wd hw 172 rfl) (wd hw 2 rfl) (wd hw 173 rfl) (by decide) pd27 [(.ref a543), (.int (5 : Int32)), (.int (3 : Int32)), (.int (2 : Int32)), (.int nb), (.int rb)] [] rfl rfl rfl 0 (Nat.le_of_eq rfl) (CN.pay (W := 0) A550 (m_okO l Z a0 hw a543 (5 : Int32) (3 : Int32) (2 : Int32) nb rb h543 n0 A550.old (by decide)) (wd hw 173 rfl) (wd hw 2 rfl) (by decide) (by decide)) (kc := 0) (ks := 0) (by decide) (by decide) all0 (fun _ => sf0) fun v551 T551 h551 L551 A551 K551 q551 => ?_
      obtain ⟨rfl, hh551⟩ := q551
      obtain rfl := hh551.symm
      show Wp pG e below _ T551 (mkF m 203 _ [(.int (1 : Int32))])
      refine f_ifN A551 at_203 ((if0 _ _).trans (feq (by decide : ¬ (1 : Int32) = (0 : Int32))).1) (pc' := 206) rfl ?_
      refine f_aload A551 at_206 (pc' := 208) rfl rfl rfl ?_
      refine f_bipush A551 at_208 (pc' := 210) rfl 6 rfl ?_
      refine f_iload A551 at_210 (pc' := 212) rfl rfl ?_
      refine f_iloadN A551 at_212 (pc' := 213) rfl rfl ?_
      refine f_iloadN A551 at_213 (pc' := 214) rfl rfl ?_
      refine f_iloadN A551 at_214 (pc' := 215) rfl rfl ?_
      refine f_callS A551 at_215 (pc' := 218) rfl (wd hw 171 rfl) (wd hw 172 rfl) (wd hw 2 rfl) (wd hw 173 rfl) (by decide) pd27 [(.ref a543), (.int (6 : Int32)), (.int (3 : Int32)), (.int (2 : Int32)), (.int nb), (.int rb)] [] rfl rfl rfl 0 (Nat.le_of_eq rfl) (CN.pay (W := 0) A551 (m_okO l Z a0 hw a543 (6 : Int32) (3 : Int32) (2 : Int32) nb rb h543 n0 A551.old (by decide)) (wd hw 173 rfl) (wd hw 2 rfl) (by decide) (by decide)) (kc := 0) (ks := 0) (by decide) (by decide) all0 (fun _ => sf0) fun v552 T552 h552 L552 A552 K552 q552 => ?_
      obtain ⟨rfl, hh552⟩ := q552
      obtain rfl := hh552.symm
      show Wp pG e below _ T552 (mkF m 218 _ [(.int (1 : Int32))])
      refine f_ifN A552 at_218 ((if0 _ _).trans (feq (by decide : ¬ (1 : Int32) = (0 : Int32))).1) (pc' := 221) rfl ?_
      refine f_iconst A552 at_221 (pc' := 222) rfl 1 rfl ?_
      refine f_goto A552 at_222 (pc' := 226) (by decide) (by decide) ?_
      exact f_retBW A552 hEL hlk hret at_226 (by decide) (1 : Int32) (by decide) (by decide) (by decide) Q544 rfl
    · refine f_iloadN A0 at_0 (pc' := 1) rfl rfl ?_
      refine f_iconst A0 at_1 (pc' := 2) rfl 3 rfl ?_
      refine f_iand A0 at_2 (pc' := 3) rfl (2 : Int32) hm0 ?_
      refine f_istoreN A0 at_3 (pc' := 4) rfl (L' := #[.val (.int lens), .val (.int nb), .val (.int rb), .val (.int (2 : Int32)), .unset, .unset, .unset, .unset, .unset, .unset]) rfl ?_
      refine f_iloadN A0 at_4 (pc' := 5) rfl rfl ?_
      refine f_iconst A0 at_5 (pc' := 6) rfl 2 rfl ?_
      refine f_iushr A0 at_6 (pc' := 7) rfl ((lens.toUInt32 >>> ((2 : Int32) &&& 31).toUInt32).toInt32) rfl ?_
      refine f_iconst A0 at_7 (pc' := 8) rfl 3 rfl ?_
      refine f_iand A0 at_8 (pc' := 9) rfl (1 : Int32) hn1 ?_
      refine f_istore A0 at_9 (pc' := 11) rfl (L' := #[.val (.int lens), .val (.int nb), .val (.int rb), .val (.int (2 : Int32)), .val (.int (1 : Int32)), .unset, .unset, .unset, .unset, .unset]) rfl ?_
      refine f_iloadN A0 at_11 (pc' := 12) rfl rfl ?_
      refine f_iloadN A0 at_12 (pc' := 13) rfl rfl ?_
      refine f_callSW A0 at_13 (pc' := 16) rfl (wd hw 0 rfl) (wd hw 1 rfl) (wd hw 2 rfl) (wd hw 3 rfl) (by decide) pd25 [(.int (2 : Int32)), (.int nb)] [] rfl rfl rfl 0 (Nat.le_of_eq rfl) (CW.pay (W := 0) A0 hEL (m_str2 l Z a0 hw nb e0 e1 e2 zc O2 P5 h0 n0 A0.old hEL he0 s0 he1 s1 he2 s2) (wd hw 3 rfl) (wd hw 2 rfl) (by decide) (by decide) (fun _ q => nomatch q)) (kc := 4) (ks := 14) (by decide) (by decide) all0 fun v553 vm553 T553 h553 L553 A553 K553 C553 q553 => ?_
      have Q554 : Keep h0 h553 [] := K0.trans K553 all0
      obtain ⟨x553, t553, rfl, xg553, G553⟩ := q553
      show Wp pG e below _ T553 (mkF m 16 _ [(.ref x553)])
      refine f_astore A553 at_16 (pc' := 18) rfl rfl (L' := #[.val (.int lens), .val (.int nb), .val (.int rb), .val (.int (2 : Int32)), .val (.int (1 : Int32)), .val (.ref x553), .unset, .unset, .unset, .unset]) rfl ?_
      refine f_iload A553 at_18 (pc' := 20) rfl rfl ?_
      refine f_iloadN A553 at_20 (pc' := 21) rfl rfl ?_
      refine f_callSW A553 at_21 (pc' := 24) rfl (wd hw 0 rfl) (wd hw 1 rfl) (wd hw 2 rfl) (wd hw 3 rfl) (by decide) pd25 [(.int (1 : Int32)), (.int rb)] [] rfl rfl rfl 0 (Nat.le_of_eq rfl) (CW.pay (W := 0) A553 hEL (m_str1 l Z a0 hw rb c0 c1 c2 zc O2 P5 h553 n0 A553.old hEL hc0 r0 hc1 r1 hc2 r2) (wd hw 3 rfl) (wd hw 2 rfl) (by decide) (by decide) (fun _ q => nomatch q)) (kc := 4) (ks := 14) (by decide) (by decide) all0 fun v555 vm555 T555 h555 L555 A555 K555 C555 q555 => ?_
      have Q556 : Keep h0 h555 [] := Q554.trans K555 all0
      obtain ⟨x555, t555, rfl, xg555, G555⟩ := q555
      show Wp pG e below _ T555 (mkF m 24 _ [(.ref x555)])
      refine f_astore A555 at_24 (pc' := 26) rfl rfl (L' := #[.val (.int lens), .val (.int nb), .val (.int rb), .val (.int (2 : Int32)), .val (.int (1 : Int32)), .val (.ref x553), .val (.ref x555), .unset, .unset, .unset]) rfl ?_
      by_cases q0 : c0 = 46
      · refine f_aload A555 at_26 (pc' := 28) rfl rfl rfl ?_
        refine f_aload A555 at_28 (pc' := 30) rfl rfl rfl ?_
        refine f_callSW A555 at_30 (pc' := 33) rfl (wd hw 26 rfl) (wd hw 27 rfl) (wd hw 28 rfl) (wd hw 29 rfl) (by decide) pd26 [(.ref x553), (.ref x555)] [] rfl rfl rfl 0 (Nat.le_of_eq rfl) (CW.pay (W := 0) A555 hEL (m_qd1 l Z a0 hw x553 x555 t555 c0 zc O2 P5 h555 n0 A555.old hEL G555 r0 (by simp [idxD, *])) (wd hw 29 rfl) (wd hw 28 rfl) (by decide) (by decide) (fun _ q => nomatch q)) (kc := 2) (ks := 8) (by decide) (by decide) all0 fun v557 vm557 T557 h557 L557 A557 K557 C557 q557 => ?_
        have Q558 : Keep h0 h557 [] := Q556.trans K557 all0
        obtain rfl := q557
        show Wp pG e below _ T557 (mkF m 33 _ [(.ref x555)])
        refine f_astore A557 at_33 (pc' := 35) rfl rfl (L' := #[.val (.int lens), .val (.int nb), .val (.int rb), .val (.int (2 : Int32)), .val (.int (1 : Int32)), .val (.ref x553), .val (.ref x555), .val (.ref x555), .unset, .unset]) rfl ?_
        refine f_iload A557 at_35 (pc' := 37) rfl rfl ?_
        refine f_ifN A557 at_37 ((if0 _ _).trans (tlt (by decide : (0 : Int32) < (1 : Int32))).2.2.2) (pc' := 40) rfl ?_
        refine f_iloadN A557 at_40 (pc' := 41) rfl rfl ?_
        refine f_iconst A557 at_41 (pc' := 42) rfl 0 rfl ?_
        refine f_callS A557 at_42 (pc' := 45) rfl (wd hw 190 rfl) (wd hw 191 rfl) (wd hw 2 rfl) (wd hw 192 rfl) (by decide) pd16 [(.int rb), (.int (0 : Int32))] [] rfl rfl rfl 0 (Nat.le_of_eq rfl) (CN.pay (W := 0) A557 (m_ch l Z a0 hw rb (0 : Int32) c0 h557 n0 A557.old hc0) (wd hw 192 rfl) (wd hw 2 rfl) (by decide) (by decide)) (kc := 0) (ks := 0) (by decide) (by decide) all0 (fun _ => sf0) fun v559 T559 h559 L559 A559 K559 q559 => ?_
        obtain ⟨rfl, hh559⟩ := q559
        obtain rfl := hh559.symm
        show Wp pG e below _ T559 (mkF m 45 _ [(.int c0)])
        refine f_bipush A559 at_45 (pc' := 47) rfl 46 rfl ?_
        refine f_icY A559 at_47 (teq q0).1 (pc' := 82) (by decide) (by decide) ?_
        refine f_iconst A559 at_82 (pc' := 83) rfl 1 rfl ?_
        refine f_goto A559 at_83 (pc' := 87) (by decide) (by decide) ?_
        refine f_istore A559 at_87 (pc' := 89) rfl (L' := #[.val (.int lens), .val (.int nb), .val (.int rb), .val (.int (2 : Int32)), .val (.int (1 : Int32)), .val (.ref x553), .val (.ref x555), .val (.ref x555), .val (.int (1 : Int32)), .unset]) rfl ?_
        refine f_iload A559 at_89 (pc' := 91) rfl rfl ?_
        refine f_ifN A559 at_91 ((if0 _ _).trans (feq (by decide : ¬ (1 : Int32) = (0 : Int32))).1) (pc' := 94) rfl ?_
        refine f_aload A559 at_94 (pc' := 96) rfl rfl rfl ?_
        refine f_aload A559 at_96 (pc' := 98) rfl rfl rfl ?_
        have c561 := (G555.exa.keep K557)
        refine f_callV A559 (a := x555) at_98 (pc' := 101) rfl (wd hw 206 rfl) (wd hw 207 rfl) (nfS A559 (wd hw 209 rfl)) (wd hw 209 rfl) (wd hw 208 rfl) (by decide) c561 pd28 [(.ref x555)] [] rfl rfl rfl 0 (Nat.le_of_eq rfl) (CN.pay (W := 0) A559 (m_eqself l Z a0 hw x555 h557 n0 A559.old) (wd hw 210 rfl) (wd hw 6 rfl) (by decide) (by decide)) (kc := 0) (ks := 0) (by decide) (by decide) all0 (fun _ => sf0) fun v560 T560 h560 L560 A560 K560 q560 => ?_
        obtain ⟨rfl, hh560⟩ := q560
        obtain rfl := hh560.symm
        show Wp pG e below _ T560 (mkF m 101 _ [(.int (1 : Int32))])
        exact f_retBW A560 hEL hlk hret at_101 (by decide) (1 : Int32) (by decide) (by decide) (by decide) Q558 rfl
      · refine f_aload A555 at_26 (pc' := 28) rfl rfl rfl ?_
        refine f_aload A555 at_28 (pc' := 30) rfl rfl rfl ?_
        have c562 := (G553.keep K555 nin0 nin0)
        refine f_callSW A555 at_30 (pc' := 33) rfl (wd hw 26 rfl) (wd hw 27 rfl) (wd hw 28 rfl) (wd hw 29 rfl) (by decide) pd26 [(.ref x553), (.ref x555)] [] rfl rfl rfl 0 (Nat.le_of_eq rfl) (CW.pay (W := 0) A555 hEL (m_qn1 l Z a0 hw x553 t553 x555 t555 [e0, e1] c0 zc O2 P5 h555 n0 A555.old hEL c562 G555 (lc s0 (lc s1 ln)) (Nat.le_of_ble_eq_true rfl) r0 (by simp [idxD, *])) (wd hw 29 rfl) (wd hw 28 rfl) (by decide) (by decide) (fun _ q => nomatch q)) (kc := 9) (ks := 150) (by decide) (by decide) all0 fun v563 vm563 T563 h563 L563 A563 K563 C563 q563 => ?_
        have Q564 : Keep h0 h563 [] := Q556.trans K563 all0
        obtain ⟨a563, b563, rfl, ag563, G563⟩ := q563
        have G563 : Str Z h563 a563 b563 [e0, e1, (46 : Int32), c0] := G563
        show Wp pG e below _ T563 (mkF m 33 _ [(.ref a563)])
        refine f_astore A563 at_33 (pc' := 35) rfl rfl (L' := #[.val (.int lens), .val (.int nb), .val (.int rb), .val (.int (2 : Int32)), .val (.int (1 : Int32)), .val (.ref x553), .val (.ref x555), .val (.ref a563), .unset, .unset]) rfl ?_
        refine f_iload A563 at_35 (pc' := 37) rfl rfl ?_
        refine f_ifN A563 at_37 ((if0 _ _).trans (tlt (by decide : (0 : Int32) < (1 : Int32))).2.2.2) (pc' := 40) rfl ?_
        refine f_iloadN A563 at_40 (pc' := 41) rfl rfl ?_
        refine f_iconst A563 at_41 (pc' := 42) rfl 0 rfl ?_
        refine f_callS A563 at_42 (pc' := 45) rfl (wd hw 190 rfl) (wd hw 191 rfl) (wd hw 2 rfl) (wd hw 192 rfl) (by decide) pd16 [(.int rb), (.int (0 : Int32))] [] rfl rfl rfl 0 (Nat.le_of_eq rfl) (CN.pay (W := 0) A563 (m_ch l Z a0 hw rb (0 : Int32) c0 h563 n0 A563.old hc0) (wd hw 192 rfl) (wd hw 2 rfl) (by decide) (by decide)) (kc := 0) (ks := 0) (by decide) (by decide) all0 (fun _ => sf0) fun v565 T565 h565 L565 A565 K565 q565 => ?_
        obtain ⟨rfl, hh565⟩ := q565
        obtain rfl := hh565.symm
        show Wp pG e below _ T565 (mkF m 45 _ [(.int c0)])
        refine f_bipush A565 at_45 (pc' := 47) rfl 46 rfl ?_
        refine f_icN A565 at_47 (feq q0).1 (pc' := 50) rfl ?_
        refine f_iload A565 at_50 (pc' := 52) rfl rfl ?_
        refine f_iconst A565 at_52 (pc' := 53) rfl 1 rfl ?_
        refine f_icY A565 at_53 (flt (by decide : ¬ (1 : Int32) < (1 : Int32))).2.2.2 (pc' := 66) (by decide) (by decide) ?_
        refine f_iload A565 at_66 (pc' := 68) rfl rfl ?_
        refine f_iconst A565 at_68 (pc' := 69) rfl 2 rfl ?_
        refine f_icY A565 at_69 (flt (by decide : ¬ (2 : Int32) < (1 : Int32))).2.2.2 (pc' := 86) (by decide) (by decide) ?_
        refine f_iconst A565 at_86 (pc' := 87) rfl 0 rfl ?_
        refine f_istore A565 at_87 (pc' := 89) rfl (L' := #[.val (.int lens), .val (.int nb), .val (.int rb), .val (.int (2 : Int32)), .val (.int (1 : Int32)), .val (.ref x553), .val (.ref x555), .val (.ref a563), .val (.int (0 : Int32)), .unset]) rfl ?_
        refine f_iload A565 at_89 (pc' := 91) rfl rfl ?_
        refine f_ifY A565 at_91 ((if0 _ _).trans (teq (by decide : (0 : Int32) = (0 : Int32))).1) (pc' := 102) (by decide) (by decide) ?_
        refine f_iloadN A565 at_102 (pc' := 103) rfl rfl ?_
        refine f_iconst A565 at_103 (pc' := 104) rfl 1 rfl ?_
        refine f_iadd A565 at_104 (pc' := 105) rfl (3 : Int32) (by decide) ?_
        refine f_iload A565 at_105 (pc' := 107) rfl rfl ?_
        refine f_iadd A565 at_107 (pc' := 108) rfl (4 : Int32) (by decide) ?_
        refine f_istore A565 at_108 (pc' := 110) rfl (L' := #[.val (.int lens), .val (.int nb), .val (.int rb), .val (.int (2 : Int32)), .val (.int (1 : Int32)), .val (.ref x553), .val (.ref x555), .val (.ref a563), .val (.int (0 : Int32)), .val (.int (4 : Int32))]) rfl ?_
        refine f_aload A565 at_110 (pc' := 112) rfl rfl rfl ?_
        refine f_callV A565 (a := a563) at_112 (pc' := 115) rfl (wd hw 170 rfl) (wd hw 94 rfl) (nfS A565 (wd hw 96 rfl)) (wd hw 96 rfl) (wd hw 95 rfl) (by decide) G563.exa pd5 [] [] rfl rfl rfl 0 (Nat.le_of_eq rfl) (payLen (W := 0) A565 hw (wd hw 5 rfl) G563 O2 P5 (by decide) (by decide)) (kc := 0) (ks := 0) (by decide) (by decide) all0 (fun _ => sf0) fun v566 T566 h566 L566 A566 K566 q566 => ?_
        obtain ⟨rfl, hh566⟩ := q566
        obtain rfl := hh566.symm
        show Wp pG e below _ T566 (mkF m 115 _ [(.int (4 : Int32))])
        refine f_iload A566 at_115 (pc' := 117) rfl rfl ?_
        refine f_icY A566 at_117 (teq (by decide : (4 : Int32) = (4 : Int32))).1 (pc' := 122) (by decide) (by decide) ?_
        refine f_aload A566 at_122 (pc' := 124) rfl rfl rfl ?_
        refine f_iconst A566 at_124 (pc' := 125) rfl 0 rfl ?_
        refine f_iload A566 at_125 (pc' := 127) rfl rfl ?_
        refine f_iloadN A566 at_127 (pc' := 128) rfl rfl ?_
        refine f_iloadN A566 at_128 (pc' := 129) rfl rfl ?_
        refine f_iloadN A566 at_129 (pc' := 130) rfl rfl ?_
        refine f_callS A566 at_130 (pc' := 133) rfl (wd hw 171 rfl) (wd hw 172 rfl) (wd hw 2 rfl) (wd hw 173 rfl) (by decide) pd27 [(.ref a563), (.int (0 : Int32)), (.int (4 : Int32)), (.int (2 : Int32)), (.int nb), (.int rb)] [] rfl rfl rfl 0 (Nat.le_of_eq rfl) (CN.pay (W := 0) A566 (m_okN l Z a0 hw a563 (0 : Int32) (4 : Int32) (2 : Int32) nb rb b563 [e0, e1, (46 : Int32), c0] 0 e0 zc O2 P5 fm O4 rG3 h563 n0 A566.old G563 (lat2 (lc s0 (lc s1 (lc (by decide) (lc r0 ln))))) (Nat.le_of_ble_eq_true rfl) rfl rfl (by decide) (by decide) he0) (wd hw 173 rfl) (wd hw 2 rfl) (by decide) (by decide)) (kc := 0) (ks := 0) (by decide) (by decide) all0 (fun _ => sf0) fun v567 T567 h567 L567 A567 K567 q567 => ?_
        obtain ⟨rfl, hh567⟩ := q567
        obtain rfl := hh567.symm
        show Wp pG e below _ T567 (mkF m 133 _ [(.int (1 : Int32))])
        refine f_ifN A567 at_133 ((if0 _ _).trans (feq (by decide : ¬ (1 : Int32) = (0 : Int32))).1) (pc' := 136) rfl ?_
        refine f_aload A567 at_136 (pc' := 138) rfl rfl rfl ?_
        refine f_iconst A567 at_138 (pc' := 139) rfl 1 rfl ?_
        refine f_iload A567 at_139 (pc' := 141) rfl rfl ?_
        refine f_iloadN A567 at_141 (pc' := 142) rfl rfl ?_
        refine f_iloadN A567 at_142 (pc' := 143) rfl rfl ?_
        refine f_iloadN A567 at_143 (pc' := 144) rfl rfl ?_
        refine f_callS A567 at_144 (pc' := 147) rfl (wd hw 171 rfl) (wd hw 172 rfl) (wd hw 2 rfl) (wd hw 173 rfl) (by decide) pd27 [(.ref a563), (.int (1 : Int32)), (.int (4 : Int32)), (.int (2 : Int32)), (.int nb), (.int rb)] [] rfl rfl rfl 0 (Nat.le_of_eq rfl) (CN.pay (W := 0) A567 (m_okN l Z a0 hw a563 (1 : Int32) (4 : Int32) (2 : Int32) nb rb b563 [e0, e1, (46 : Int32), c0] 1 e1 zc O2 P5 fm O4 rG3 h563 n0 A567.old G563 (lat2 (lc s0 (lc s1 (lc (by decide) (lc r0 ln))))) (Nat.le_of_ble_eq_true rfl) rfl rfl (by decide) (by decide) he1) (wd hw 173 rfl) (wd hw 2 rfl) (by decide) (by decide)) (kc := 0) (ks := 0) (by decide) (by decide) all0 (fun _ => sf0) fun v568 T568 h568 L568 A568 K568 q568 => ?_
        obtain ⟨rfl, hh568⟩ := q568
        obtain rfl := hh568.symm
        show Wp pG e below _ T568 (mkF m 147 _ [(.int (1 : Int32))])
        refine f_ifN A568 at_147 ((if0 _ _).trans (feq (by decide : ¬ (1 : Int32) = (0 : Int32))).1) (pc' := 150) rfl ?_
        refine f_aload A568 at_150 (pc' := 152) rfl rfl rfl ?_
        refine f_iconst A568 at_152 (pc' := 153) rfl 2 rfl ?_
        refine f_iload A568 at_153 (pc' := 155) rfl rfl ?_
        refine f_iloadN A568 at_155 (pc' := 156) rfl rfl ?_
        refine f_iloadN A568 at_156 (pc' := 157) rfl rfl ?_
        refine f_iloadN A568 at_157 (pc' := 158) rfl rfl ?_
        refine f_callS A568 at_158 (pc' := 161) rfl (wd hw 171 rfl) (wd hw 172 rfl) (wd hw 2 rfl) (wd hw 173 rfl) (by decide) pd27 [(.ref a563), (.int (2 : Int32)), (.int (4 : Int32)), (.int (2 : Int32)), (.int nb), (.int rb)] [] rfl rfl rfl 0 (Nat.le_of_eq rfl) (CN.pay (W := 0) A568 (m_okD l Z a0 hw a563 (2 : Int32) (4 : Int32) (2 : Int32) nb rb b563 [e0, e1, (46 : Int32), c0] 2 (46 : Int32) zc O2 P5 fm O4 rG3 h563 n0 A568.old G563 (lat2 (lc s0 (lc s1 (lc (by decide) (lc r0 ln))))) (Nat.le_of_ble_eq_true rfl) rfl rfl (by decide) rfl (by decide) rfl) (wd hw 173 rfl) (wd hw 2 rfl) (by decide) (by decide)) (kc := 0) (ks := 0) (by decide) (by decide) all0 (fun _ => sf0) fun v569 T569 h569 L569 A569 K569 q569 => ?_
        obtain ⟨rfl, hh569⟩ := q569
        obtain rfl := hh569.symm
        show Wp pG e below _ T569 (mkF m 161 _ [(.int (1 : Int32))])
        refine f_ifN A569 at_161 ((if0 _ _).trans (feq (by decide : ¬ (1 : Int32) = (0 : Int32))).1) (pc' := 164) rfl ?_
        refine f_aload A569 at_164 (pc' := 166) rfl rfl rfl ?_
        refine f_iconst A569 at_166 (pc' := 167) rfl 3 rfl ?_
        refine f_iload A569 at_167 (pc' := 169) rfl rfl ?_
        refine f_iloadN A569 at_169 (pc' := 170) rfl rfl ?_
        refine f_iloadN A569 at_170 (pc' := 171) rfl rfl ?_
        refine f_iloadN A569 at_171 (pc' := 172) rfl rfl ?_
        refine f_callS A569 at_172 (pc' := 175) rfl (wd hw 171 rfl) (wd hw 172 rfl) (wd hw 2 rfl) (wd hw 173 rfl) (by decide) pd27 [(.ref a563), (.int (3 : Int32)), (.int (4 : Int32)), (.int (2 : Int32)), (.int nb), (.int rb)] [] rfl rfl rfl 0 (Nat.le_of_eq rfl) (CN.pay (W := 0) A569 (m_okR l Z a0 hw a563 (3 : Int32) (4 : Int32) (2 : Int32) nb rb b563 [e0, e1, (46 : Int32), c0] 3 c0 zc O2 P5 fm O4 rG3 h563 n0 A569.old G563 (lat2 (lc s0 (lc s1 (lc (by decide) (lc r0 ln))))) (Nat.le_of_ble_eq_true rfl) rfl rfl (by decide) (by decide) (by decide) hc0) (wd hw 173 rfl) (wd hw 2 rfl) (by decide) (by decide)) (kc := 0) (ks := 0) (by decide) (by decide) all0 (fun _ => sf0) fun v570 T570 h570 L570 A570 K570 q570 => ?_
        obtain ⟨rfl, hh570⟩ := q570
        obtain rfl := hh570.symm
        show Wp pG e below _ T570 (mkF m 175 _ [(.int (1 : Int32))])
        refine f_ifN A570 at_175 ((if0 _ _).trans (feq (by decide : ¬ (1 : Int32) = (0 : Int32))).1) (pc' := 178) rfl ?_
        refine f_aload A570 at_178 (pc' := 180) rfl rfl rfl ?_
        refine f_iconst A570 at_180 (pc' := 181) rfl 4 rfl ?_
        refine f_iload A570 at_181 (pc' := 183) rfl rfl ?_
        refine f_iloadN A570 at_183 (pc' := 184) rfl rfl ?_
        refine f_iloadN A570 at_184 (pc' := 185) rfl rfl ?_
        refine f_iloadN A570 at_185 (pc' := 186) rfl rfl ?_
        refine f_callS A570 at_186 (pc' := 189) rfl (wd hw 171 rfl) (wd hw 172 rfl) (wd hw 2 rfl) (wd hw 173 rfl) (by decide) pd27 [(.ref a563), (.int (4 : Int32)), (.int (4 : Int32)), (.int (2 : Int32)), (.int nb), (.int rb)] [] rfl rfl rfl 0 (Nat.le_of_eq rfl) (CN.pay (W := 0) A570 (m_okO l Z a0 hw a563 (4 : Int32) (4 : Int32) (2 : Int32) nb rb h563 n0 A570.old (by decide)) (wd hw 173 rfl) (wd hw 2 rfl) (by decide) (by decide)) (kc := 0) (ks := 0) (by decide) (by decide) all0 (fun _ => sf0) fun v571 T571 h571 L571 A571 K571 q571 => ?_
        obtain ⟨rfl, hh571⟩ := q571
        obtain rfl := hh571.symm
        show Wp pG e below _ T571 (mkF m 189 _ [(.int (1 : Int32))])
        refine f_ifN A571 at_189 ((if0 _ _).trans (feq (by decide : ¬ (1 : Int32) = (0 : Int32))).1) (pc' := 192) rfl ?_
        refine f_aload A571 at_192 (pc' := 194) rfl rfl rfl ?_
        refine f_iconst A571 at_194 (pc' := 195) rfl 5 rfl ?_
        refine f_iload A571 at_195 (pc' := 197) rfl rfl ?_
        refine f_iloadN A571 at_197 (pc' := 198) rfl rfl ?_
        refine f_iloadN A571 at_198 (pc' := 199) rfl rfl ?_
        refine f_iloadN A571 at_199 (pc' := 200) rfl rfl ?_
        refine f_callS A571 at_200 (pc' := 203) rfl (wd hw 171 rfl) (wd hw 172 rfl) (wd hw 2 rfl) (wd hw 173 rfl) (by decide) pd27 [(.ref a563), (.int (5 : Int32)), (.int (4 : Int32)), (.int (2 : Int32)), (.int nb), (.int rb)] [] rfl rfl rfl 0 (Nat.le_of_eq rfl) (CN.pay (W := 0) A571 (m_okO l Z a0 hw a563 (5 : Int32) (4 : Int32) (2 : Int32) nb rb h563 n0 A571.old (by decide)) (wd hw 173 rfl) (wd hw 2 rfl) (by decide) (by decide)) (kc := 0) (ks := 0) (by decide) (by decide) all0 (fun _ => sf0) fun v572 T572 h572 L572 A572 K572 q572 => ?_
        obtain ⟨rfl, hh572⟩ := q572
        obtain rfl := hh572.symm
        show Wp pG e below _ T572 (mkF m 203 _ [(.int (1 : Int32))])
        refine f_ifN A572 at_203 ((if0 _ _).trans (feq (by decide : ¬ (1 : Int32) = (0 : Int32))).1) (pc' := 206) rfl ?_
        refine f_aload A572 at_206 (pc' := 208) rfl rfl rfl ?_
        refine f_bipush A572 at_208 (pc' := 210) rfl 6 rfl ?_
        refine f_iload A572 at_210 (pc' := 212) rfl rfl ?_
        refine f_iloadN A572 at_212 (pc' := 213) rfl rfl ?_
        refine f_iloadN A572 at_213 (pc' := 214) rfl rfl ?_
        refine f_iloadN A572 at_214 (pc' := 215) rfl rfl ?_
        refine f_callS A572 at_215 (pc' := 218) rfl (wd hw 171 rfl) (wd hw 172 rfl) (wd hw 2 rfl) (wd hw 173 rfl) (by decide) pd27 [(.ref a563), (.int (6 : Int32)), (.int (4 : Int32)), (.int (2 : Int32)), (.int nb), (.int rb)] [] rfl rfl rfl 0 (Nat.le_of_eq rfl) (CN.pay (W := 0) A572 (m_okO l Z a0 hw a563 (6 : Int32) (4 : Int32) (2 : Int32) nb rb h563 n0 A572.old (by decide)) (wd hw 173 rfl) (wd hw 2 rfl) (by decide) (by decide)) (kc := 0) (ks := 0) (by decide) (by decide) all0 (fun _ => sf0) fun v573 T573 h573 L573 A573 K573 q573 => ?_
        obtain ⟨rfl, hh573⟩ := q573
        obtain rfl := hh573.symm
        show Wp pG e below _ T573 (mkF m 218 _ [(.int (1 : Int32))])
        refine f_ifN A573 at_218 ((if0 _ _).trans (feq (by decide : ¬ (1 : Int32) = (0 : Int32))).1) (pc' := 221) rfl ?_
        refine f_iconst A573 at_221 (pc' := 222) rfl 1 rfl ?_
        refine f_goto A573 at_222 (pc' := 226) (by decide) (by decide) ?_
        exact f_retBW A573 hEL hlk hret at_226 (by decide) (1 : Int32) (by decide) (by decide) (by decide) Q564 rfl
    · refine f_iloadN A0 at_0 (pc' := 1) rfl rfl ?_
      refine f_iconst A0 at_1 (pc' := 2) rfl 3 rfl ?_
      refine f_iand A0 at_2 (pc' := 3) rfl (2 : Int32) hm0 ?_
      refine f_istoreN A0 at_3 (pc' := 4) rfl (L' := #[.val (.int lens), .val (.int nb), .val (.int rb), .val (.int (2 : Int32)), .unset, .unset, .unset, .unset, .unset, .unset]) rfl ?_
      refine f_iloadN A0 at_4 (pc' := 5) rfl rfl ?_
      refine f_iconst A0 at_5 (pc' := 6) rfl 2 rfl ?_
      refine f_iushr A0 at_6 (pc' := 7) rfl ((lens.toUInt32 >>> ((2 : Int32) &&& 31).toUInt32).toInt32) rfl ?_
      refine f_iconst A0 at_7 (pc' := 8) rfl 3 rfl ?_
      refine f_iand A0 at_8 (pc' := 9) rfl (2 : Int32) hn1 ?_
      refine f_istore A0 at_9 (pc' := 11) rfl (L' := #[.val (.int lens), .val (.int nb), .val (.int rb), .val (.int (2 : Int32)), .val (.int (2 : Int32)), .unset, .unset, .unset, .unset, .unset]) rfl ?_
      refine f_iloadN A0 at_11 (pc' := 12) rfl rfl ?_
      refine f_iloadN A0 at_12 (pc' := 13) rfl rfl ?_
      refine f_callSW A0 at_13 (pc' := 16) rfl (wd hw 0 rfl) (wd hw 1 rfl) (wd hw 2 rfl) (wd hw 3 rfl) (by decide) pd25 [(.int (2 : Int32)), (.int nb)] [] rfl rfl rfl 0 (Nat.le_of_eq rfl) (CW.pay (W := 0) A0 hEL (m_str2 l Z a0 hw nb e0 e1 e2 zc O2 P5 h0 n0 A0.old hEL he0 s0 he1 s1 he2 s2) (wd hw 3 rfl) (wd hw 2 rfl) (by decide) (by decide) (fun _ q => nomatch q)) (kc := 4) (ks := 14) (by decide) (by decide) all0 fun v574 vm574 T574 h574 L574 A574 K574 C574 q574 => ?_
      have Q575 : Keep h0 h574 [] := K0.trans K574 all0
      obtain ⟨x574, t574, rfl, xg574, G574⟩ := q574
      show Wp pG e below _ T574 (mkF m 16 _ [(.ref x574)])
      refine f_astore A574 at_16 (pc' := 18) rfl rfl (L' := #[.val (.int lens), .val (.int nb), .val (.int rb), .val (.int (2 : Int32)), .val (.int (2 : Int32)), .val (.ref x574), .unset, .unset, .unset, .unset]) rfl ?_
      refine f_iload A574 at_18 (pc' := 20) rfl rfl ?_
      refine f_iloadN A574 at_20 (pc' := 21) rfl rfl ?_
      refine f_callSW A574 at_21 (pc' := 24) rfl (wd hw 0 rfl) (wd hw 1 rfl) (wd hw 2 rfl) (wd hw 3 rfl) (by decide) pd25 [(.int (2 : Int32)), (.int rb)] [] rfl rfl rfl 0 (Nat.le_of_eq rfl) (CW.pay (W := 0) A574 hEL (m_str2 l Z a0 hw rb c0 c1 c2 zc O2 P5 h574 n0 A574.old hEL hc0 r0 hc1 r1 hc2 r2) (wd hw 3 rfl) (wd hw 2 rfl) (by decide) (by decide) (fun _ q => nomatch q)) (kc := 4) (ks := 14) (by decide) (by decide) all0 fun v576 vm576 T576 h576 L576 A576 K576 C576 q576 => ?_
      have Q577 : Keep h0 h576 [] := Q575.trans K576 all0
      obtain ⟨x576, t576, rfl, xg576, G576⟩ := q576
      show Wp pG e below _ T576 (mkF m 24 _ [(.ref x576)])
      refine f_astore A576 at_24 (pc' := 26) rfl rfl (L' := #[.val (.int lens), .val (.int nb), .val (.int rb), .val (.int (2 : Int32)), .val (.int (2 : Int32)), .val (.ref x574), .val (.ref x576), .unset, .unset, .unset]) rfl ?_
      by_cases q0 : c0 = 46
      · refine f_aload A576 at_26 (pc' := 28) rfl rfl rfl ?_
        refine f_aload A576 at_28 (pc' := 30) rfl rfl rfl ?_
        refine f_callSW A576 at_30 (pc' := 33) rfl (wd hw 26 rfl) (wd hw 27 rfl) (wd hw 28 rfl) (wd hw 29 rfl) (by decide) pd26 [(.ref x574), (.ref x576)] [] rfl rfl rfl 0 (Nat.le_of_eq rfl) (CW.pay (W := 0) A576 hEL (m_qd2 l Z a0 hw x574 x576 t576 c0 c1 zc O2 P5 h576 n0 A576.old hEL G576 r0 r1 (by simp [idxD, *])) (wd hw 29 rfl) (wd hw 28 rfl) (by decide) (by decide) (fun _ q => nomatch q)) (kc := 2) (ks := 8) (by decide) (by decide) all0 fun v578 vm578 T578 h578 L578 A578 K578 C578 q578 => ?_
        have Q579 : Keep h0 h578 [] := Q577.trans K578 all0
        obtain rfl := q578
        show Wp pG e below _ T578 (mkF m 33 _ [(.ref x576)])
        refine f_astore A578 at_33 (pc' := 35) rfl rfl (L' := #[.val (.int lens), .val (.int nb), .val (.int rb), .val (.int (2 : Int32)), .val (.int (2 : Int32)), .val (.ref x574), .val (.ref x576), .val (.ref x576), .unset, .unset]) rfl ?_
        refine f_iload A578 at_35 (pc' := 37) rfl rfl ?_
        refine f_ifN A578 at_37 ((if0 _ _).trans (tlt (by decide : (0 : Int32) < (2 : Int32))).2.2.2) (pc' := 40) rfl ?_
        refine f_iloadN A578 at_40 (pc' := 41) rfl rfl ?_
        refine f_iconst A578 at_41 (pc' := 42) rfl 0 rfl ?_
        refine f_callS A578 at_42 (pc' := 45) rfl (wd hw 190 rfl) (wd hw 191 rfl) (wd hw 2 rfl) (wd hw 192 rfl) (by decide) pd16 [(.int rb), (.int (0 : Int32))] [] rfl rfl rfl 0 (Nat.le_of_eq rfl) (CN.pay (W := 0) A578 (m_ch l Z a0 hw rb (0 : Int32) c0 h578 n0 A578.old hc0) (wd hw 192 rfl) (wd hw 2 rfl) (by decide) (by decide)) (kc := 0) (ks := 0) (by decide) (by decide) all0 (fun _ => sf0) fun v580 T580 h580 L580 A580 K580 q580 => ?_
        obtain ⟨rfl, hh580⟩ := q580
        obtain rfl := hh580.symm
        show Wp pG e below _ T580 (mkF m 45 _ [(.int c0)])
        refine f_bipush A580 at_45 (pc' := 47) rfl 46 rfl ?_
        refine f_icY A580 at_47 (teq q0).1 (pc' := 82) (by decide) (by decide) ?_
        refine f_iconst A580 at_82 (pc' := 83) rfl 1 rfl ?_
        refine f_goto A580 at_83 (pc' := 87) (by decide) (by decide) ?_
        refine f_istore A580 at_87 (pc' := 89) rfl (L' := #[.val (.int lens), .val (.int nb), .val (.int rb), .val (.int (2 : Int32)), .val (.int (2 : Int32)), .val (.ref x574), .val (.ref x576), .val (.ref x576), .val (.int (1 : Int32)), .unset]) rfl ?_
        refine f_iload A580 at_89 (pc' := 91) rfl rfl ?_
        refine f_ifN A580 at_91 ((if0 _ _).trans (feq (by decide : ¬ (1 : Int32) = (0 : Int32))).1) (pc' := 94) rfl ?_
        refine f_aload A580 at_94 (pc' := 96) rfl rfl rfl ?_
        refine f_aload A580 at_96 (pc' := 98) rfl rfl rfl ?_
        have c582 := (G576.exa.keep K578)
        refine f_callV A580 (a := x576) at_98 (pc' := 101) rfl (wd hw 206 rfl) (wd hw 207 rfl) (nfS A580 (wd hw 209 rfl)) (wd hw 209 rfl) (wd hw 208 rfl) (by decide) c582 pd28 [(.ref x576)] [] rfl rfl rfl 0 (Nat.le_of_eq rfl) (CN.pay (W := 0) A580 (m_eqself l Z a0 hw x576 h578 n0 A580.old) (wd hw 210 rfl) (wd hw 6 rfl) (by decide) (by decide)) (kc := 0) (ks := 0) (by decide) (by decide) all0 (fun _ => sf0) fun v581 T581 h581 L581 A581 K581 q581 => ?_
        obtain ⟨rfl, hh581⟩ := q581
        obtain rfl := hh581.symm
        show Wp pG e below _ T581 (mkF m 101 _ [(.int (1 : Int32))])
        exact f_retBW A581 hEL hlk hret at_101 (by decide) (1 : Int32) (by decide) (by decide) (by decide) Q579 rfl
      · by_cases q1 : c1 = 46
        · refine f_aload A576 at_26 (pc' := 28) rfl rfl rfl ?_
          refine f_aload A576 at_28 (pc' := 30) rfl rfl rfl ?_
          refine f_callSW A576 at_30 (pc' := 33) rfl (wd hw 26 rfl) (wd hw 27 rfl) (wd hw 28 rfl) (wd hw 29 rfl) (by decide) pd26 [(.ref x574), (.ref x576)] [] rfl rfl rfl 0 (Nat.le_of_eq rfl) (CW.pay (W := 0) A576 hEL (m_qd2 l Z a0 hw x574 x576 t576 c0 c1 zc O2 P5 h576 n0 A576.old hEL G576 r0 r1 (by simp [idxD, *])) (wd hw 29 rfl) (wd hw 28 rfl) (by decide) (by decide) (fun _ q => nomatch q)) (kc := 2) (ks := 8) (by decide) (by decide) all0 fun v583 vm583 T583 h583 L583 A583 K583 C583 q583 => ?_
          have Q584 : Keep h0 h583 [] := Q577.trans K583 all0
          obtain rfl := q583
          show Wp pG e below _ T583 (mkF m 33 _ [(.ref x576)])
          refine f_astore A583 at_33 (pc' := 35) rfl rfl (L' := #[.val (.int lens), .val (.int nb), .val (.int rb), .val (.int (2 : Int32)), .val (.int (2 : Int32)), .val (.ref x574), .val (.ref x576), .val (.ref x576), .unset, .unset]) rfl ?_
          refine f_iload A583 at_35 (pc' := 37) rfl rfl ?_
          refine f_ifN A583 at_37 ((if0 _ _).trans (tlt (by decide : (0 : Int32) < (2 : Int32))).2.2.2) (pc' := 40) rfl ?_
          refine f_iloadN A583 at_40 (pc' := 41) rfl rfl ?_
          refine f_iconst A583 at_41 (pc' := 42) rfl 0 rfl ?_
          refine f_callS A583 at_42 (pc' := 45) rfl (wd hw 190 rfl) (wd hw 191 rfl) (wd hw 2 rfl) (wd hw 192 rfl) (by decide) pd16 [(.int rb), (.int (0 : Int32))] [] rfl rfl rfl 0 (Nat.le_of_eq rfl) (CN.pay (W := 0) A583 (m_ch l Z a0 hw rb (0 : Int32) c0 h583 n0 A583.old hc0) (wd hw 192 rfl) (wd hw 2 rfl) (by decide) (by decide)) (kc := 0) (ks := 0) (by decide) (by decide) all0 (fun _ => sf0) fun v585 T585 h585 L585 A585 K585 q585 => ?_
          obtain ⟨rfl, hh585⟩ := q585
          obtain rfl := hh585.symm
          show Wp pG e below _ T585 (mkF m 45 _ [(.int c0)])
          refine f_bipush A585 at_45 (pc' := 47) rfl 46 rfl ?_
          refine f_icN A585 at_47 (feq q0).1 (pc' := 50) rfl ?_
          refine f_iload A585 at_50 (pc' := 52) rfl rfl ?_
          refine f_iconst A585 at_52 (pc' := 53) rfl 1 rfl ?_
          refine f_icN A585 at_53 (tlt (by decide : (1 : Int32) < (2 : Int32))).2.2.2 (pc' := 56) rfl ?_
          refine f_iloadN A585 at_56 (pc' := 57) rfl rfl ?_
          refine f_iconst A585 at_57 (pc' := 58) rfl 1 rfl ?_
          refine f_callS A585 at_58 (pc' := 61) rfl (wd hw 190 rfl) (wd hw 191 rfl) (wd hw 2 rfl) (wd hw 192 rfl) (by decide) pd16 [(.int rb), (.int (1 : Int32))] [] rfl rfl rfl 0 (Nat.le_of_eq rfl) (CN.pay (W := 0) A585 (m_ch l Z a0 hw rb (1 : Int32) c1 h583 n0 A585.old hc1) (wd hw 192 rfl) (wd hw 2 rfl) (by decide) (by decide)) (kc := 0) (ks := 0) (by decide) (by decide) all0 (fun _ => sf0) fun v586 T586 h586 L586 A586 K586 q586 => ?_
          obtain ⟨rfl, hh586⟩ := q586
          obtain rfl := hh586.symm
          show Wp pG e below _ T586 (mkF m 61 _ [(.int c1)])
          refine f_bipush A586 at_61 (pc' := 63) rfl 46 rfl ?_
          refine f_icY A586 at_63 (teq q1).1 (pc' := 82) (by decide) (by decide) ?_
          refine f_iconst A586 at_82 (pc' := 83) rfl 1 rfl ?_
          refine f_goto A586 at_83 (pc' := 87) (by decide) (by decide) ?_
          refine f_istore A586 at_87 (pc' := 89) rfl (L' := #[.val (.int lens), .val (.int nb), .val (.int rb), .val (.int (2 : Int32)), .val (.int (2 : Int32)), .val (.ref x574), .val (.ref x576), .val (.ref x576), .val (.int (1 : Int32)), .unset]) rfl ?_
          refine f_iload A586 at_89 (pc' := 91) rfl rfl ?_
          refine f_ifN A586 at_91 ((if0 _ _).trans (feq (by decide : ¬ (1 : Int32) = (0 : Int32))).1) (pc' := 94) rfl ?_
          refine f_aload A586 at_94 (pc' := 96) rfl rfl rfl ?_
          refine f_aload A586 at_96 (pc' := 98) rfl rfl rfl ?_
          have c588 := (G576.exa.keep K583)
          refine f_callV A586 (a := x576) at_98 (pc' := 101) rfl (wd hw 206 rfl) (wd hw 207 rfl) (nfS A586 (wd hw 209 rfl)) (wd hw 209 rfl) (wd hw 208 rfl) (by decide) c588 pd28 [(.ref x576)] [] rfl rfl rfl 0 (Nat.le_of_eq rfl) (CN.pay (W := 0) A586 (m_eqself l Z a0 hw x576 h583 n0 A586.old) (wd hw 210 rfl) (wd hw 6 rfl) (by decide) (by decide)) (kc := 0) (ks := 0) (by decide) (by decide) all0 (fun _ => sf0) fun v587 T587 h587 L587 A587 K587 q587 => ?_
          obtain ⟨rfl, hh587⟩ := q587
          obtain rfl := hh587.symm
          show Wp pG e below _ T587 (mkF m 101 _ [(.int (1 : Int32))])
          exact f_retBW A587 hEL hlk hret at_101 (by decide) (1 : Int32) (by decide) (by decide) (by decide) Q584 rfl
        · refine f_aload A576 at_26 (pc' := 28) rfl rfl rfl ?_
          refine f_aload A576 at_28 (pc' := 30) rfl rfl rfl ?_
          have c589 := (G574.keep K576 nin0 nin0)
          refine f_callSW A576 at_30 (pc' := 33) rfl (wd hw 26 rfl) (wd hw 27 rfl) (wd hw 28 rfl) (wd hw 29 rfl) (by decide) pd26 [(.ref x574), (.ref x576)] [] rfl rfl rfl 0 (Nat.le_of_eq rfl) (CW.pay (W := 0) A576 hEL (m_qn2 l Z a0 hw x574 t574 x576 t576 [e0, e1] c0 c1 zc O2 P5 h576 n0 A576.old hEL c589 G576 (lc s0 (lc s1 ln)) (Nat.le_of_ble_eq_true rfl) r0 r1 (by simp [idxD, *])) (wd hw 29 rfl) (wd hw 28 rfl) (by decide) (by decide) (fun _ q => nomatch q)) (kc := 9) (ks := 150) (by decide) (by decide) all0 fun v590 vm590 T590 h590 L590 A590 K590 C590 q590 => ?_
          have Q591 : Keep h0 h590 [] := Q577.trans K590 all0
          obtain ⟨a590, b590, rfl, ag590, G590⟩ := q590
          have G590 : Str Z h590 a590 b590 [e0, e1, (46 : Int32), c0, c1] := G590
          show Wp pG e below _ T590 (mkF m 33 _ [(.ref a590)])
          refine f_astore A590 at_33 (pc' := 35) rfl rfl (L' := #[.val (.int lens), .val (.int nb), .val (.int rb), .val (.int (2 : Int32)), .val (.int (2 : Int32)), .val (.ref x574), .val (.ref x576), .val (.ref a590), .unset, .unset]) rfl ?_
          refine f_iload A590 at_35 (pc' := 37) rfl rfl ?_
          refine f_ifN A590 at_37 ((if0 _ _).trans (tlt (by decide : (0 : Int32) < (2 : Int32))).2.2.2) (pc' := 40) rfl ?_
          refine f_iloadN A590 at_40 (pc' := 41) rfl rfl ?_
          refine f_iconst A590 at_41 (pc' := 42) rfl 0 rfl ?_
          refine f_callS A590 at_42 (pc' := 45) rfl (wd hw 190 rfl) (wd hw 191 rfl) (wd hw 2 rfl) (wd hw 192 rfl) (by decide) pd16 [(.int rb), (.int (0 : Int32))] [] rfl rfl rfl 0 (Nat.le_of_eq rfl) (CN.pay (W := 0) A590 (m_ch l Z a0 hw rb (0 : Int32) c0 h590 n0 A590.old hc0) (wd hw 192 rfl) (wd hw 2 rfl) (by decide) (by decide)) (kc := 0) (ks := 0) (by decide) (by decide) all0 (fun _ => sf0) fun v592 T592 h592 L592 A592 K592 q592 => ?_
          obtain ⟨rfl, hh592⟩ := q592
          obtain rfl := hh592.symm
          show Wp pG e below _ T592 (mkF m 45 _ [(.int c0)])
          refine f_bipush A592 at_45 (pc' := 47) rfl 46 rfl ?_
          refine f_icN A592 at_47 (feq q0).1 (pc' := 50) rfl ?_
          refine f_iload A592 at_50 (pc' := 52) rfl rfl ?_
          refine f_iconst A592 at_52 (pc' := 53) rfl 1 rfl ?_
          refine f_icN A592 at_53 (tlt (by decide : (1 : Int32) < (2 : Int32))).2.2.2 (pc' := 56) rfl ?_
          refine f_iloadN A592 at_56 (pc' := 57) rfl rfl ?_
          refine f_iconst A592 at_57 (pc' := 58) rfl 1 rfl ?_
          refine f_callS A592 at_58 (pc' := 61) rfl (wd hw 190 rfl) (wd hw 191 rfl) (wd hw 2 rfl) (wd hw 192 rfl) (by decide) pd16 [(.int rb), (.int (1 : Int32))] [] rfl rfl rfl 0 (Nat.le_of_eq rfl) (CN.pay (W := 0) A592 (m_ch l Z a0 hw rb (1 : Int32) c1 h590 n0 A592.old hc1) (wd hw 192 rfl) (wd hw 2 rfl) (by decide) (by decide)) (kc := 0) (ks := 0) (by decide) (by decide) all0 (fun _ => sf0) fun v593 T593 h593 L593 A593 K593 q593 => ?_
          obtain ⟨rfl, hh593⟩ := q593
          obtain rfl := hh593.symm
          show Wp pG e below _ T593 (mkF m 61 _ [(.int c1)])
          refine f_bipush A593 at_61 (pc' := 63) rfl 46 rfl ?_
          refine f_icN A593 at_63 (feq q1).1 (pc' := 66) rfl ?_
          refine f_iload A593 at_66 (pc' := 68) rfl rfl ?_
          refine f_iconst A593 at_68 (pc' := 69) rfl 2 rfl ?_
          refine f_icY A593 at_69 (flt (by decide : ¬ (2 : Int32) < (2 : Int32))).2.2.2 (pc' := 86) (by decide) (by decide) ?_
          refine f_iconst A593 at_86 (pc' := 87) rfl 0 rfl ?_
          refine f_istore A593 at_87 (pc' := 89) rfl (L' := #[.val (.int lens), .val (.int nb), .val (.int rb), .val (.int (2 : Int32)), .val (.int (2 : Int32)), .val (.ref x574), .val (.ref x576), .val (.ref a590), .val (.int (0 : Int32)), .unset]) rfl ?_
          refine f_iload A593 at_89 (pc' := 91) rfl rfl ?_
          refine f_ifY A593 at_91 ((if0 _ _).trans (teq (by decide : (0 : Int32) = (0 : Int32))).1) (pc' := 102) (by decide) (by decide) ?_
          refine f_iloadN A593 at_102 (pc' := 103) rfl rfl ?_
          refine f_iconst A593 at_103 (pc' := 104) rfl 1 rfl ?_
          refine f_iadd A593 at_104 (pc' := 105) rfl (3 : Int32) (by decide) ?_
          refine f_iload A593 at_105 (pc' := 107) rfl rfl ?_
          refine f_iadd A593 at_107 (pc' := 108) rfl (5 : Int32) (by decide) ?_
          refine f_istore A593 at_108 (pc' := 110) rfl (L' := #[.val (.int lens), .val (.int nb), .val (.int rb), .val (.int (2 : Int32)), .val (.int (2 : Int32)), .val (.ref x574), .val (.ref x576), .val (.ref a590), .val (.int (0 : Int32)), .val (.int (5 : Int32))]) rfl ?_
          refine f_aload A593 at_110 (pc' := 112) rfl rfl rfl ?_
          refine f_callV A593 (a := a590) at_112 (pc' := 115) rfl (wd hw 170 rfl) (wd hw 94 rfl) (nfS A593 (wd hw 96 rfl)) (wd hw 96 rfl) (wd hw 95 rfl) (by decide) G590.exa pd5 [] [] rfl rfl rfl 0 (Nat.le_of_eq rfl) (payLen (W := 0) A593 hw (wd hw 5 rfl) G590 O2 P5 (by decide) (by decide)) (kc := 0) (ks := 0) (by decide) (by decide) all0 (fun _ => sf0) fun v594 T594 h594 L594 A594 K594 q594 => ?_
          obtain ⟨rfl, hh594⟩ := q594
          obtain rfl := hh594.symm
          show Wp pG e below _ T594 (mkF m 115 _ [(.int (5 : Int32))])
          refine f_iload A594 at_115 (pc' := 117) rfl rfl ?_
          refine f_icY A594 at_117 (teq (by decide : (5 : Int32) = (5 : Int32))).1 (pc' := 122) (by decide) (by decide) ?_
          refine f_aload A594 at_122 (pc' := 124) rfl rfl rfl ?_
          refine f_iconst A594 at_124 (pc' := 125) rfl 0 rfl ?_
          refine f_iload A594 at_125 (pc' := 127) rfl rfl ?_
          refine f_iloadN A594 at_127 (pc' := 128) rfl rfl ?_
          refine f_iloadN A594 at_128 (pc' := 129) rfl rfl ?_
          refine f_iloadN A594 at_129 (pc' := 130) rfl rfl ?_
          refine f_callS A594 at_130 (pc' := 133) rfl (wd hw 171 rfl) (wd hw 172 rfl) (wd hw 2 rfl) (wd hw 173 rfl) (by decide) pd27 [(.ref a590), (.int (0 : Int32)), (.int (5 : Int32)), (.int (2 : Int32)), (.int nb), (.int rb)] [] rfl rfl rfl 0 (Nat.le_of_eq rfl) (CN.pay (W := 0) A594 (m_okN l Z a0 hw a590 (0 : Int32) (5 : Int32) (2 : Int32) nb rb b590 [e0, e1, (46 : Int32), c0, c1] 0 e0 zc O2 P5 fm O4 rG3 h590 n0 A594.old G590 (lat2 (lc s0 (lc s1 (lc (by decide) (lc r0 (lc r1 ln)))))) (Nat.le_of_ble_eq_true rfl) rfl rfl (by decide) (by decide) he0) (wd hw 173 rfl) (wd hw 2 rfl) (by decide) (by decide)) (kc := 0) (ks := 0) (by decide) (by decide) all0 (fun _ => sf0) fun v595 T595 h595 L595 A595 K595 q595 => ?_
          obtain ⟨rfl, hh595⟩ := q595
          obtain rfl := hh595.symm
          show Wp pG e below _ T595 (mkF m 133 _ [(.int (1 : Int32))])
          refine f_ifN A595 at_133 ((if0 _ _).trans (feq (by decide : ¬ (1 : Int32) = (0 : Int32))).1) (pc' := 136) rfl ?_
          refine f_aload A595 at_136 (pc' := 138) rfl rfl rfl ?_
          refine f_iconst A595 at_138 (pc' := 139) rfl 1 rfl ?_
          refine f_iload A595 at_139 (pc' := 141) rfl rfl ?_
          refine f_iloadN A595 at_141 (pc' := 142) rfl rfl ?_
          refine f_iloadN A595 at_142 (pc' := 143) rfl rfl ?_
          refine f_iloadN A595 at_143 (pc' := 144) rfl rfl ?_
          refine f_callS A595 at_144 (pc' := 147) rfl (wd hw 171 rfl) (wd hw 172 rfl) (wd hw 2 rfl) (wd hw 173 rfl) (by decide) pd27 [(.ref a590), (.int (1 : Int32)), (.int (5 : Int32)), (.int (2 : Int32)), (.int nb), (.int rb)] [] rfl rfl rfl 0 (Nat.le_of_eq rfl) (CN.pay (W := 0) A595 (m_okN l Z a0 hw a590 (1 : Int32) (5 : Int32) (2 : Int32) nb rb b590 [e0, e1, (46 : Int32), c0, c1] 1 e1 zc O2 P5 fm O4 rG3 h590 n0 A595.old G590 (lat2 (lc s0 (lc s1 (lc (by decide) (lc r0 (lc r1 ln)))))) (Nat.le_of_ble_eq_true rfl) rfl rfl (by decide) (by decide) he1) (wd hw 173 rfl) (wd hw 2 rfl) (by decide) (by decide)) (kc := 0) (ks := 0) (by decide) (by decide) all0 (fun _ => sf0) fun v596 T596 h596 L596 A596 K596 q596 => ?_
          obtain ⟨rfl, hh596⟩ := q596
          obtain rfl := hh596.symm
          show Wp pG e below _ T596 (mkF m 147 _ [(.int (1 : Int32))])
          refine f_ifN A596 at_147 ((if0 _ _).trans (feq (by decide : ¬ (1 : Int32) = (0 : Int32))).1) (pc' := 150) rfl ?_
          refine f_aload A596 at_150 (pc' := 152) rfl rfl rfl ?_
          refine f_iconst A596 at_152 (pc' := 153) rfl 2 rfl ?_
          refine f_iload A596 at_153 (pc' := 155) rfl rfl ?_
          refine f_iloadN A596 at_155 (pc' := 156) rfl rfl ?_
          refine f_iloadN A596 at_156 (pc' := 157) rfl rfl ?_
          refine f_iloadN A596 at_157 (pc' := 158) rfl rfl ?_
          refine f_callS A596 at_158 (pc' := 161) rfl (wd hw 171 rfl) (wd hw 172 rfl) (wd hw 2 rfl) (wd hw 173 rfl) (by decide) pd27 [(.ref a590), (.int (2 : Int32)), (.int (5 : Int32)), (.int (2 : Int32)), (.int nb), (.int rb)] [] rfl rfl rfl 0 (Nat.le_of_eq rfl) (CN.pay (W := 0) A596 (m_okD l Z a0 hw a590 (2 : Int32) (5 : Int32) (2 : Int32) nb rb b590 [e0, e1, (46 : Int32), c0, c1] 2 (46 : Int32) zc O2 P5 fm O4 rG3 h590 n0 A596.old G590 (lat2 (lc s0 (lc s1 (lc (by decide) (lc r0 (lc r1 ln)))))) (Nat.le_of_ble_eq_true rfl) rfl rfl (by decide) rfl (by decide) rfl) (wd hw 173 rfl) (wd hw 2 rfl) (by decide) (by decide)) (kc := 0) (ks := 0) (by decide) (by decide) all0 (fun _ => sf0) fun v597 T597 h597 L597 A597 K597 q597 => ?_
          obtain ⟨rfl, hh597⟩ := q597
          obtain rfl := hh597.symm
          show Wp pG e below _ T597 (mkF m 161 _ [(.int (1 : Int32))])
          refine f_ifN A597 at_161 ((if0 _ _).trans (feq (by decide : ¬ (1 : Int32) = (0 : Int32))).1) (pc' := 164) rfl ?_
          refine f_aload A597 at_164 (pc' := 166) rfl rfl rfl ?_
          refine f_iconst A597 at_166 (pc' := 167) rfl 3 rfl ?_
          refine f_iload A597 at_167 (pc' := 169) rfl rfl ?_
          refine f_iloadN A597 at_169 (pc' := 170) rfl rfl ?_
          refine f_iloadN A597 at_170 (pc' := 171) rfl rfl ?_
          refine f_iloadN A597 at_171 (pc' := 172) rfl rfl ?_
          refine f_callS A597 at_172 (pc' := 175) rfl (wd hw 171 rfl) (wd hw 172 rfl) (wd hw 2 rfl) (wd hw 173 rfl) (by decide) pd27 [(.ref a590), (.int (3 : Int32)), (.int (5 : Int32)), (.int (2 : Int32)), (.int nb), (.int rb)] [] rfl rfl rfl 0 (Nat.le_of_eq rfl) (CN.pay (W := 0) A597 (m_okR l Z a0 hw a590 (3 : Int32) (5 : Int32) (2 : Int32) nb rb b590 [e0, e1, (46 : Int32), c0, c1] 3 c0 zc O2 P5 fm O4 rG3 h590 n0 A597.old G590 (lat2 (lc s0 (lc s1 (lc (by decide) (lc r0 (lc r1 ln)))))) (Nat.le_of_ble_eq_true rfl) rfl rfl (by decide) (by decide) (by decide) hc0) (wd hw 173 rfl) (wd hw 2 rfl) (by decide) (by decide)) (kc := 0) (ks := 0) (by decide) (by decide) all0 (fun _ => sf0) fun v598 T598 h598 L598 A598 K598 q598 => ?_
          obtain ⟨rfl, hh598⟩ := q598
          obtain rfl := hh598.symm
          show Wp pG e below _ T598 (mkF m 175 _ [(.int (1 : Int32))])
          refine f_ifN A598 at_175 ((if0 _ _).trans (feq (by decide : ¬ (1 : Int32) = (0 : Int32))).1) (pc' := 178) rfl ?_
          refine f_aload A598 at_178 (pc' := 180) rfl rfl rfl ?_
          refine f_iconst A598 at_180 (pc' := 181) rfl 4 rfl ?_
          refine f_iload A598 at_181 (pc' := 183) rfl rfl ?_
          refine f_iloadN A598 at_183 (pc' := 184) rfl rfl ?_
          refine f_iloadN A598 at_184 (pc' := 185) rfl rfl ?_
          refine f_iloadN A598 at_185 (pc' := 186) rfl rfl ?_
          refine f_callS A598 at_186 (pc' := 189) rfl (wd hw 171 rfl) (wd hw 172 rfl) (wd hw 2 rfl) (wd hw 173 rfl) (by decide) pd27 [(.ref a590), (.int (4 : Int32)), (.int (5 : Int32)), (.int (2 : Int32)), (.int nb), (.int rb)] [] rfl rfl rfl 0 (Nat.le_of_eq rfl) (CN.pay (W := 0) A598 (m_okR l Z a0 hw a590 (4 : Int32) (5 : Int32) (2 : Int32) nb rb b590 [e0, e1, (46 : Int32), c0, c1] 4 c1 zc O2 P5 fm O4 rG3 h590 n0 A598.old G590 (lat2 (lc s0 (lc s1 (lc (by decide) (lc r0 (lc r1 ln)))))) (Nat.le_of_ble_eq_true rfl) rfl rfl (by decide) (by decide) (by decide) hc1) (wd hw 173 rfl) (wd hw 2 rfl) (by decide) (by decide)) (kc := 0) (ks := 0) (by decide) (by decide) all0 (fun _ => sf0) fun v599 T599 h599 L599 A599 K599 q599 => ?_
          obtain ⟨rfl, hh599⟩ := q599
          obtain rfl := hh599.symm
          show Wp pG e below _ T599 (mkF m 189 _ [(.int (1 : Int32))])
          refine f_ifN A599 at_189 ((if0 _ _).trans (feq (by decide : ¬ (1 : Int32) = (0 : Int32))).1) (pc' := 192) rfl ?_
          refine f_aload A599 at_192 (pc' := 194) rfl rfl rfl ?_
          refine f_iconst A599 at_194 (pc' := 195) rfl 5 rfl ?_
          refine f_iload A599 at_195 (pc' := 197) rfl rfl ?_
          refine f_iloadN A599 at_197 (pc' := 198) rfl rfl ?_
          refine f_iloadN A599 at_198 (pc' := 199) rfl rfl ?_
          refine f_iloadN A599 at_199 (pc' := 200) rfl rfl ?_
          refine f_callS A599 at_200 (pc' := 203) rfl (wd hw 171 rfl) (wd hw 172 rfl) (wd hw 2 rfl) (wd hw 173 rfl) (by decide) pd27 [(.ref a590), (.int (5 : Int32)), (.int (5 : Int32)), (.int (2 : Int32)), (.int nb), (.int rb)] [] rfl rfl rfl 0 (Nat.le_of_eq rfl) (CN.pay (W := 0) A599 (m_okO l Z a0 hw a590 (5 : Int32) (5 : Int32) (2 : Int32) nb rb h590 n0 A599.old (by decide)) (wd hw 173 rfl) (wd hw 2 rfl) (by decide) (by decide)) (kc := 0) (ks := 0) (by decide) (by decide) all0 (fun _ => sf0) fun v600 T600 h600 L600 A600 K600 q600 => ?_
          obtain ⟨rfl, hh600⟩ := q600
          obtain rfl := hh600.symm
          show Wp pG e below _ T600 (mkF m 203 _ [(.int (1 : Int32))])
          refine f_ifN A600 at_203 ((if0 _ _).trans (feq (by decide : ¬ (1 : Int32) = (0 : Int32))).1) (pc' := 206) rfl ?_
          refine f_aload A600 at_206 (pc' := 208) rfl rfl rfl ?_
          refine f_bipush A600 at_208 (pc' := 210) rfl 6 rfl ?_
          refine f_iload A600 at_210 (pc' := 212) rfl rfl ?_
          refine f_iloadN A600 at_212 (pc' := 213) rfl rfl ?_
          refine f_iloadN A600 at_213 (pc' := 214) rfl rfl ?_
          refine f_iloadN A600 at_214 (pc' := 215) rfl rfl ?_
          refine f_callS A600 at_215 (pc' := 218) rfl (wd hw 171 rfl) (wd hw 172 rfl) (wd hw 2 rfl) (wd hw 173 rfl) (by decide) pd27 [(.ref a590), (.int (6 : Int32)), (.int (5 : Int32)), (.int (2 : Int32)), (.int nb), (.int rb)] [] rfl rfl rfl 0 (Nat.le_of_eq rfl) (CN.pay (W := 0) A600 (m_okO l Z a0 hw a590 (6 : Int32) (5 : Int32) (2 : Int32) nb rb h590 n0 A600.old (by decide)) (wd hw 173 rfl) (wd hw 2 rfl) (by decide) (by decide)) (kc := 0) (ks := 0) (by decide) (by decide) all0 (fun _ => sf0) fun v601 T601 h601 L601 A601 K601 q601 => ?_
          obtain ⟨rfl, hh601⟩ := q601
          obtain rfl := hh601.symm
          show Wp pG e below _ T601 (mkF m 218 _ [(.int (1 : Int32))])
          refine f_ifN A601 at_218 ((if0 _ _).trans (feq (by decide : ¬ (1 : Int32) = (0 : Int32))).1) (pc' := 221) rfl ?_
          refine f_iconst A601 at_221 (pc' := 222) rfl 1 rfl ?_
          refine f_goto A601 at_222 (pc' := 226) (by decide) (by decide) ?_
          exact f_retBW A601 hEL hlk hret at_226 (by decide) (1 : Int32) (by decide) (by decide) (by decide) Q591 rfl
    · refine f_iloadN A0 at_0 (pc' := 1) rfl rfl ?_
      refine f_iconst A0 at_1 (pc' := 2) rfl 3 rfl ?_
      refine f_iand A0 at_2 (pc' := 3) rfl (2 : Int32) hm0 ?_
      refine f_istoreN A0 at_3 (pc' := 4) rfl (L' := #[.val (.int lens), .val (.int nb), .val (.int rb), .val (.int (2 : Int32)), .unset, .unset, .unset, .unset, .unset, .unset]) rfl ?_
      refine f_iloadN A0 at_4 (pc' := 5) rfl rfl ?_
      refine f_iconst A0 at_5 (pc' := 6) rfl 2 rfl ?_
      refine f_iushr A0 at_6 (pc' := 7) rfl ((lens.toUInt32 >>> ((2 : Int32) &&& 31).toUInt32).toInt32) rfl ?_
      refine f_iconst A0 at_7 (pc' := 8) rfl 3 rfl ?_
      refine f_iand A0 at_8 (pc' := 9) rfl (3 : Int32) hn1 ?_
      refine f_istore A0 at_9 (pc' := 11) rfl (L' := #[.val (.int lens), .val (.int nb), .val (.int rb), .val (.int (2 : Int32)), .val (.int (3 : Int32)), .unset, .unset, .unset, .unset, .unset]) rfl ?_
      refine f_iloadN A0 at_11 (pc' := 12) rfl rfl ?_
      refine f_iloadN A0 at_12 (pc' := 13) rfl rfl ?_
      refine f_callSW A0 at_13 (pc' := 16) rfl (wd hw 0 rfl) (wd hw 1 rfl) (wd hw 2 rfl) (wd hw 3 rfl) (by decide) pd25 [(.int (2 : Int32)), (.int nb)] [] rfl rfl rfl 0 (Nat.le_of_eq rfl) (CW.pay (W := 0) A0 hEL (m_str2 l Z a0 hw nb e0 e1 e2 zc O2 P5 h0 n0 A0.old hEL he0 s0 he1 s1 he2 s2) (wd hw 3 rfl) (wd hw 2 rfl) (by decide) (by decide) (fun _ q => nomatch q)) (kc := 4) (ks := 14) (by decide) (by decide) all0 fun v602 vm602 T602 h602 L602 A602 K602 C602 q602 => ?_
      have Q603 : Keep h0 h602 [] := K0.trans K602 all0
      obtain ⟨x602, t602, rfl, xg602, G602⟩ := q602
      show Wp pG e below _ T602 (mkF m 16 _ [(.ref x602)])
      refine f_astore A602 at_16 (pc' := 18) rfl rfl (L' := #[.val (.int lens), .val (.int nb), .val (.int rb), .val (.int (2 : Int32)), .val (.int (3 : Int32)), .val (.ref x602), .unset, .unset, .unset, .unset]) rfl ?_
      refine f_iload A602 at_18 (pc' := 20) rfl rfl ?_
      refine f_iloadN A602 at_20 (pc' := 21) rfl rfl ?_
      refine f_callSW A602 at_21 (pc' := 24) rfl (wd hw 0 rfl) (wd hw 1 rfl) (wd hw 2 rfl) (wd hw 3 rfl) (by decide) pd25 [(.int (3 : Int32)), (.int rb)] [] rfl rfl rfl 0 (Nat.le_of_eq rfl) (CW.pay (W := 0) A602 hEL (m_str3 l Z a0 hw rb c0 c1 c2 zc O2 P5 h602 n0 A602.old hEL hc0 r0 hc1 r1 hc2 r2) (wd hw 3 rfl) (wd hw 2 rfl) (by decide) (by decide) (fun _ q => nomatch q)) (kc := 4) (ks := 14) (by decide) (by decide) all0 fun v604 vm604 T604 h604 L604 A604 K604 C604 q604 => ?_
      have Q605 : Keep h0 h604 [] := Q603.trans K604 all0
      obtain ⟨x604, t604, rfl, xg604, G604⟩ := q604
      show Wp pG e below _ T604 (mkF m 24 _ [(.ref x604)])
      refine f_astore A604 at_24 (pc' := 26) rfl rfl (L' := #[.val (.int lens), .val (.int nb), .val (.int rb), .val (.int (2 : Int32)), .val (.int (3 : Int32)), .val (.ref x602), .val (.ref x604), .unset, .unset, .unset]) rfl ?_
      by_cases q0 : c0 = 46
      · refine f_aload A604 at_26 (pc' := 28) rfl rfl rfl ?_
        refine f_aload A604 at_28 (pc' := 30) rfl rfl rfl ?_
        refine f_callSW A604 at_30 (pc' := 33) rfl (wd hw 26 rfl) (wd hw 27 rfl) (wd hw 28 rfl) (wd hw 29 rfl) (by decide) pd26 [(.ref x602), (.ref x604)] [] rfl rfl rfl 0 (Nat.le_of_eq rfl) (CW.pay (W := 0) A604 hEL (m_qd3 l Z a0 hw x602 x604 t604 c0 c1 c2 zc O2 P5 h604 n0 A604.old hEL G604 r0 r1 r2 (by simp [idxD, *])) (wd hw 29 rfl) (wd hw 28 rfl) (by decide) (by decide) (fun _ q => nomatch q)) (kc := 2) (ks := 8) (by decide) (by decide) all0 fun v606 vm606 T606 h606 L606 A606 K606 C606 q606 => ?_
        have Q607 : Keep h0 h606 [] := Q605.trans K606 all0
        obtain rfl := q606
        show Wp pG e below _ T606 (mkF m 33 _ [(.ref x604)])
        refine f_astore A606 at_33 (pc' := 35) rfl rfl (L' := #[.val (.int lens), .val (.int nb), .val (.int rb), .val (.int (2 : Int32)), .val (.int (3 : Int32)), .val (.ref x602), .val (.ref x604), .val (.ref x604), .unset, .unset]) rfl ?_
        refine f_iload A606 at_35 (pc' := 37) rfl rfl ?_
        refine f_ifN A606 at_37 ((if0 _ _).trans (tlt (by decide : (0 : Int32) < (3 : Int32))).2.2.2) (pc' := 40) rfl ?_
        refine f_iloadN A606 at_40 (pc' := 41) rfl rfl ?_
        refine f_iconst A606 at_41 (pc' := 42) rfl 0 rfl ?_
        refine f_callS A606 at_42 (pc' := 45) rfl (wd hw 190 rfl) (wd hw 191 rfl) (wd hw 2 rfl) (wd hw 192 rfl) (by decide) pd16 [(.int rb), (.int (0 : Int32))] [] rfl rfl rfl 0 (Nat.le_of_eq rfl) (CN.pay (W := 0) A606 (m_ch l Z a0 hw rb (0 : Int32) c0 h606 n0 A606.old hc0) (wd hw 192 rfl) (wd hw 2 rfl) (by decide) (by decide)) (kc := 0) (ks := 0) (by decide) (by decide) all0 (fun _ => sf0) fun v608 T608 h608 L608 A608 K608 q608 => ?_
        obtain ⟨rfl, hh608⟩ := q608
        obtain rfl := hh608.symm
        show Wp pG e below _ T608 (mkF m 45 _ [(.int c0)])
        refine f_bipush A608 at_45 (pc' := 47) rfl 46 rfl ?_
        refine f_icY A608 at_47 (teq q0).1 (pc' := 82) (by decide) (by decide) ?_
        refine f_iconst A608 at_82 (pc' := 83) rfl 1 rfl ?_
        refine f_goto A608 at_83 (pc' := 87) (by decide) (by decide) ?_
        refine f_istore A608 at_87 (pc' := 89) rfl (L' := #[.val (.int lens), .val (.int nb), .val (.int rb), .val (.int (2 : Int32)), .val (.int (3 : Int32)), .val (.ref x602), .val (.ref x604), .val (.ref x604), .val (.int (1 : Int32)), .unset]) rfl ?_
        refine f_iload A608 at_89 (pc' := 91) rfl rfl ?_
        refine f_ifN A608 at_91 ((if0 _ _).trans (feq (by decide : ¬ (1 : Int32) = (0 : Int32))).1) (pc' := 94) rfl ?_
        refine f_aload A608 at_94 (pc' := 96) rfl rfl rfl ?_
        refine f_aload A608 at_96 (pc' := 98) rfl rfl rfl ?_
        have c610 := (G604.exa.keep K606)
        refine f_callV A608 (a := x604) at_98 (pc' := 101) rfl (wd hw 206 rfl) (wd hw 207 rfl) (nfS A608 (wd hw 209 rfl)) (wd hw 209 rfl) (wd hw 208 rfl) (by decide) c610 pd28 [(.ref x604)] [] rfl rfl rfl 0 (Nat.le_of_eq rfl) (CN.pay (W := 0) A608 (m_eqself l Z a0 hw x604 h606 n0 A608.old) (wd hw 210 rfl) (wd hw 6 rfl) (by decide) (by decide)) (kc := 0) (ks := 0) (by decide) (by decide) all0 (fun _ => sf0) fun v609 T609 h609 L609 A609 K609 q609 => ?_
        obtain ⟨rfl, hh609⟩ := q609
        obtain rfl := hh609.symm
        show Wp pG e below _ T609 (mkF m 101 _ [(.int (1 : Int32))])
        exact f_retBW A609 hEL hlk hret at_101 (by decide) (1 : Int32) (by decide) (by decide) (by decide) Q607 rfl
      · by_cases q1 : c1 = 46
        · refine f_aload A604 at_26 (pc' := 28) rfl rfl rfl ?_
          refine f_aload A604 at_28 (pc' := 30) rfl rfl rfl ?_
          refine f_callSW A604 at_30 (pc' := 33) rfl (wd hw 26 rfl) (wd hw 27 rfl) (wd hw 28 rfl) (wd hw 29 rfl) (by decide) pd26 [(.ref x602), (.ref x604)] [] rfl rfl rfl 0 (Nat.le_of_eq rfl) (CW.pay (W := 0) A604 hEL (m_qd3 l Z a0 hw x602 x604 t604 c0 c1 c2 zc O2 P5 h604 n0 A604.old hEL G604 r0 r1 r2 (by simp [idxD, *])) (wd hw 29 rfl) (wd hw 28 rfl) (by decide) (by decide) (fun _ q => nomatch q)) (kc := 2) (ks := 8) (by decide) (by decide) all0 fun v611 vm611 T611 h611 L611 A611 K611 C611 q611 => ?_
          have Q612 : Keep h0 h611 [] := Q605.trans K611 all0
          obtain rfl := q611
          show Wp pG e below _ T611 (mkF m 33 _ [(.ref x604)])
          refine f_astore A611 at_33 (pc' := 35) rfl rfl (L' := #[.val (.int lens), .val (.int nb), .val (.int rb), .val (.int (2 : Int32)), .val (.int (3 : Int32)), .val (.ref x602), .val (.ref x604), .val (.ref x604), .unset, .unset]) rfl ?_
          refine f_iload A611 at_35 (pc' := 37) rfl rfl ?_
          refine f_ifN A611 at_37 ((if0 _ _).trans (tlt (by decide : (0 : Int32) < (3 : Int32))).2.2.2) (pc' := 40) rfl ?_
          refine f_iloadN A611 at_40 (pc' := 41) rfl rfl ?_
          refine f_iconst A611 at_41 (pc' := 42) rfl 0 rfl ?_
          refine f_callS A611 at_42 (pc' := 45) rfl (wd hw 190 rfl) (wd hw 191 rfl) (wd hw 2 rfl) (wd hw 192 rfl) (by decide) pd16 [(.int rb), (.int (0 : Int32))] [] rfl rfl rfl 0 (Nat.le_of_eq rfl) (CN.pay (W := 0) A611 (m_ch l Z a0 hw rb (0 : Int32) c0 h611 n0 A611.old hc0) (wd hw 192 rfl) (wd hw 2 rfl) (by decide) (by decide)) (kc := 0) (ks := 0) (by decide) (by decide) all0 (fun _ => sf0) fun v613 T613 h613 L613 A613 K613 q613 => ?_
          obtain ⟨rfl, hh613⟩ := q613
          obtain rfl := hh613.symm
          show Wp pG e below _ T613 (mkF m 45 _ [(.int c0)])
          refine f_bipush A613 at_45 (pc' := 47) rfl 46 rfl ?_
          refine f_icN A613 at_47 (feq q0).1 (pc' := 50) rfl ?_
          refine f_iload A613 at_50 (pc' := 52) rfl rfl ?_
          refine f_iconst A613 at_52 (pc' := 53) rfl 1 rfl ?_
          refine f_icN A613 at_53 (tlt (by decide : (1 : Int32) < (3 : Int32))).2.2.2 (pc' := 56) rfl ?_
          refine f_iloadN A613 at_56 (pc' := 57) rfl rfl ?_
          refine f_iconst A613 at_57 (pc' := 58) rfl 1 rfl ?_
          refine f_callS A613 at_58 (pc' := 61) rfl (wd hw 190 rfl) (wd hw 191 rfl) (wd hw 2 rfl) (wd hw 192 rfl) (by decide) pd16 [(.int rb), (.int (1 : Int32))] [] rfl rfl rfl 0 (Nat.le_of_eq rfl) (CN.pay (W := 0) A613 (m_ch l Z a0 hw rb (1 : Int32) c1 h611 n0 A613.old hc1) (wd hw 192 rfl) (wd hw 2 rfl) (by decide) (by decide)) (kc := 0) (ks := 0) (by decide) (by decide) all0 (fun _ => sf0) fun v614 T614 h614 L614 A614 K614 q614 => ?_
          obtain ⟨rfl, hh614⟩ := q614
          obtain rfl := hh614.symm
          show Wp pG e below _ T614 (mkF m 61 _ [(.int c1)])
          refine f_bipush A614 at_61 (pc' := 63) rfl 46 rfl ?_
          refine f_icY A614 at_63 (teq q1).1 (pc' := 82) (by decide) (by decide) ?_
          refine f_iconst A614 at_82 (pc' := 83) rfl 1 rfl ?_
          refine f_goto A614 at_83 (pc' := 87) (by decide) (by decide) ?_
          refine f_istore A614 at_87 (pc' := 89) rfl (L' := #[.val (.int lens), .val (.int nb), .val (.int rb), .val (.int (2 : Int32)), .val (.int (3 : Int32)), .val (.ref x602), .val (.ref x604), .val (.ref x604), .val (.int (1 : Int32)), .unset]) rfl ?_
          refine f_iload A614 at_89 (pc' := 91) rfl rfl ?_
          refine f_ifN A614 at_91 ((if0 _ _).trans (feq (by decide : ¬ (1 : Int32) = (0 : Int32))).1) (pc' := 94) rfl ?_
          refine f_aload A614 at_94 (pc' := 96) rfl rfl rfl ?_
          refine f_aload A614 at_96 (pc' := 98) rfl rfl rfl ?_
          have c616 := (G604.exa.keep K611)
          refine f_callV A614 (a := x604) at_98 (pc' := 101) rfl (wd hw 206 rfl) (wd hw 207 rfl) (nfS A614 (wd hw 209 rfl)) (wd hw 209 rfl) (wd hw 208 rfl) (by decide) c616 pd28 [(.ref x604)] [] rfl rfl rfl 0 (Nat.le_of_eq rfl) (CN.pay (W := 0) A614 (m_eqself l Z a0 hw x604 h611 n0 A614.old) (wd hw 210 rfl) (wd hw 6 rfl) (by decide) (by decide)) (kc := 0) (ks := 0) (by decide) (by decide) all0 (fun _ => sf0) fun v615 T615 h615 L615 A615 K615 q615 => ?_
          obtain ⟨rfl, hh615⟩ := q615
          obtain rfl := hh615.symm
          show Wp pG e below _ T615 (mkF m 101 _ [(.int (1 : Int32))])
          exact f_retBW A615 hEL hlk hret at_101 (by decide) (1 : Int32) (by decide) (by decide) (by decide) Q612 rfl
        · by_cases q2 : c2 = 46
          · refine f_aload A604 at_26 (pc' := 28) rfl rfl rfl ?_
            refine f_aload A604 at_28 (pc' := 30) rfl rfl rfl ?_
            refine f_callSW A604 at_30 (pc' := 33) rfl (wd hw 26 rfl) (wd hw 27 rfl) (wd hw 28 rfl) (wd hw 29 rfl) (by decide) pd26 [(.ref x602), (.ref x604)] [] rfl rfl rfl 0 (Nat.le_of_eq rfl) (CW.pay (W := 0) A604 hEL (m_qd3 l Z a0 hw x602 x604 t604 c0 c1 c2 zc O2 P5 h604 n0 A604.old hEL G604 r0 r1 r2 (by simp [idxD, *])) (wd hw 29 rfl) (wd hw 28 rfl) (by decide) (by decide) (fun _ q => nomatch q)) (kc := 2) (ks := 8) (by decide) (by decide) all0 fun v617 vm617 T617 h617 L617 A617 K617 C617 q617 => ?_
            have Q618 : Keep h0 h617 [] := Q605.trans K617 all0
            obtain rfl := q617
            show Wp pG e below _ T617 (mkF m 33 _ [(.ref x604)])
            refine f_astore A617 at_33 (pc' := 35) rfl rfl (L' := #[.val (.int lens), .val (.int nb), .val (.int rb), .val (.int (2 : Int32)), .val (.int (3 : Int32)), .val (.ref x602), .val (.ref x604), .val (.ref x604), .unset, .unset]) rfl ?_
            refine f_iload A617 at_35 (pc' := 37) rfl rfl ?_
            refine f_ifN A617 at_37 ((if0 _ _).trans (tlt (by decide : (0 : Int32) < (3 : Int32))).2.2.2) (pc' := 40) rfl ?_
            refine f_iloadN A617 at_40 (pc' := 41) rfl rfl ?_
            refine f_iconst A617 at_41 (pc' := 42) rfl 0 rfl ?_
            refine f_callS A617 at_42 (pc' := 45) rfl (wd hw 190 rfl) (wd hw 191 rfl) (wd hw 2 rfl) (wd hw 192 rfl) (by decide) pd16 [(.int rb), (.int (0 : Int32))] [] rfl rfl rfl 0 (Nat.le_of_eq rfl) (CN.pay (W := 0) A617 (m_ch l Z a0 hw rb (0 : Int32) c0 h617 n0 A617.old hc0) (wd hw 192 rfl) (wd hw 2 rfl) (by decide) (by decide)) (kc := 0) (ks := 0) (by decide) (by decide) all0 (fun _ => sf0) fun v619 T619 h619 L619 A619 K619 q619 => ?_
            obtain ⟨rfl, hh619⟩ := q619
            obtain rfl := hh619.symm
            show Wp pG e below _ T619 (mkF m 45 _ [(.int c0)])
            refine f_bipush A619 at_45 (pc' := 47) rfl 46 rfl ?_
            refine f_icN A619 at_47 (feq q0).1 (pc' := 50) rfl ?_
            refine f_iload A619 at_50 (pc' := 52) rfl rfl ?_
            refine f_iconst A619 at_52 (pc' := 53) rfl 1 rfl ?_
            refine f_icN A619 at_53 (tlt (by decide : (1 : Int32) < (3 : Int32))).2.2.2 (pc' := 56) rfl ?_
            refine f_iloadN A619 at_56 (pc' := 57) rfl rfl ?_
            refine f_iconst A619 at_57 (pc' := 58) rfl 1 rfl ?_
            refine f_callS A619 at_58 (pc' := 61) rfl (wd hw 190 rfl) (wd hw 191 rfl) (wd hw 2 rfl) (wd hw 192 rfl) (by decide) pd16 [(.int rb), (.int (1 : Int32))] [] rfl rfl rfl 0 (Nat.le_of_eq rfl) (CN.pay (W := 0) A619 (m_ch l Z a0 hw rb (1 : Int32) c1 h617 n0 A619.old hc1) (wd hw 192 rfl) (wd hw 2 rfl) (by decide) (by decide)) (kc := 0) (ks := 0) (by decide) (by decide) all0 (fun _ => sf0) fun v620 T620 h620 L620 A620 K620 q620 => ?_
            obtain ⟨rfl, hh620⟩ := q620
            obtain rfl := hh620.symm
            show Wp pG e below _ T620 (mkF m 61 _ [(.int c1)])
            refine f_bipush A620 at_61 (pc' := 63) rfl 46 rfl ?_
            refine f_icN A620 at_63 (feq q1).1 (pc' := 66) rfl ?_
            refine f_iload A620 at_66 (pc' := 68) rfl rfl ?_
            refine f_iconst A620 at_68 (pc' := 69) rfl 2 rfl ?_
            refine f_icN A620 at_69 (tlt (by decide : (2 : Int32) < (3 : Int32))).2.2.2 (pc' := 72) rfl ?_
            refine f_iloadN A620 at_72 (pc' := 73) rfl rfl ?_
            refine f_iconst A620 at_73 (pc' := 74) rfl 2 rfl ?_
            refine f_callS A620 at_74 (pc' := 77) rfl (wd hw 190 rfl) (wd hw 191 rfl) (wd hw 2 rfl) (wd hw 192 rfl) (by decide) pd16 [(.int rb), (.int (2 : Int32))] [] rfl rfl rfl 0 (Nat.le_of_eq rfl) (CN.pay (W := 0) A620 (m_ch l Z a0 hw rb (2 : Int32) c2 h617 n0 A620.old hc2) (wd hw 192 rfl) (wd hw 2 rfl) (by decide) (by decide)) (kc := 0) (ks := 0) (by decide) (by decide) all0 (fun _ => sf0) fun v621 T621 h621 L621 A621 K621 q621 => ?_
            obtain ⟨rfl, hh621⟩ := q621
            obtain rfl := hh621.symm
            show Wp pG e below _ T621 (mkF m 77 _ [(.int c2)])
            refine f_bipush A621 at_77 (pc' := 79) rfl 46 rfl ?_
            refine f_icN A621 at_79 (teq q2).2 (pc' := 82) rfl ?_
            refine f_iconst A621 at_82 (pc' := 83) rfl 1 rfl ?_
            refine f_goto A621 at_83 (pc' := 87) (by decide) (by decide) ?_
            refine f_istore A621 at_87 (pc' := 89) rfl (L' := #[.val (.int lens), .val (.int nb), .val (.int rb), .val (.int (2 : Int32)), .val (.int (3 : Int32)), .val (.ref x602), .val (.ref x604), .val (.ref x604), .val (.int (1 : Int32)), .unset]) rfl ?_
            refine f_iload A621 at_89 (pc' := 91) rfl rfl ?_
            refine f_ifN A621 at_91 ((if0 _ _).trans (feq (by decide : ¬ (1 : Int32) = (0 : Int32))).1) (pc' := 94) rfl ?_
            refine f_aload A621 at_94 (pc' := 96) rfl rfl rfl ?_
            refine f_aload A621 at_96 (pc' := 98) rfl rfl rfl ?_
            have c623 := (G604.exa.keep K617)
            refine f_callV A621 (a := x604) at_98 (pc' := 101) rfl (wd hw 206 rfl) (wd hw 207 rfl) (nfS A621 (wd hw 209 rfl)) (wd hw 209 rfl) (wd hw 208 rfl) (by decide) c623 pd28 [(.ref x604)] [] rfl rfl rfl 0 (Nat.le_of_eq rfl) (CN.pay (W := 0) A621 (m_eqself l Z a0 hw x604 h617 n0 A621.old) (wd hw 210 rfl) (wd hw 6 rfl) (by decide) (by decide)) (kc := 0) (ks := 0) (by decide) (by decide) all0 (fun _ => sf0) fun v622 T622 h622 L622 A622 K622 q622 => ?_
            obtain ⟨rfl, hh622⟩ := q622
            obtain rfl := hh622.symm
            show Wp pG e below _ T622 (mkF m 101 _ [(.int (1 : Int32))])
            exact f_retBW A622 hEL hlk hret at_101 (by decide) (1 : Int32) (by decide) (by decide) (by decide) Q618 rfl
          · refine f_aload A604 at_26 (pc' := 28) rfl rfl rfl ?_
            refine f_aload A604 at_28 (pc' := 30) rfl rfl rfl ?_
            have c624 := (G602.keep K604 nin0 nin0)
            refine f_callSW A604 at_30 (pc' := 33) rfl (wd hw 26 rfl) (wd hw 27 rfl) (wd hw 28 rfl) (wd hw 29 rfl) (by decide) pd26 [(.ref x602), (.ref x604)] [] rfl rfl rfl 0 (Nat.le_of_eq rfl) (CW.pay (W := 0) A604 hEL (m_qn3 l Z a0 hw x602 t602 x604 t604 [e0, e1] c0 c1 c2 zc O2 P5 h604 n0 A604.old hEL c624 G604 (lc s0 (lc s1 ln)) (Nat.le_of_ble_eq_true rfl) r0 r1 r2 (by simp [idxD, *])) (wd hw 29 rfl) (wd hw 28 rfl) (by decide) (by decide) (fun _ q => nomatch q)) (kc := 9) (ks := 150) (by decide) (by decide) all0 fun v625 vm625 T625 h625 L625 A625 K625 C625 q625 => ?_
            have Q626 : Keep h0 h625 [] := Q605.trans K625 all0
            obtain ⟨a625, b625, rfl, ag625, G625⟩ := q625
            have G625 : Str Z h625 a625 b625 [e0, e1, (46 : Int32), c0, c1, c2] := G625
            show Wp pG e below _ T625 (mkF m 33 _ [(.ref a625)])
            refine f_astore A625 at_33 (pc' := 35) rfl rfl (L' := #[.val (.int lens), .val (.int nb), .val (.int rb), .val (.int (2 : Int32)), .val (.int (3 : Int32)), .val (.ref x602), .val (.ref x604), .val (.ref a625), .unset, .unset]) rfl ?_
            refine f_iload A625 at_35 (pc' := 37) rfl rfl ?_
            refine f_ifN A625 at_37 ((if0 _ _).trans (tlt (by decide : (0 : Int32) < (3 : Int32))).2.2.2) (pc' := 40) rfl ?_
            refine f_iloadN A625 at_40 (pc' := 41) rfl rfl ?_
            refine f_iconst A625 at_41 (pc' := 42) rfl 0 rfl ?_
            refine f_callS A625 at_42 (pc' := 45) rfl (wd hw 190 rfl) (wd hw 191 rfl) (wd hw 2 rfl) (wd hw 192 rfl) (by decide) pd16 [(.int rb), (.int (0 : Int32))] [] rfl rfl rfl 0 (Nat.le_of_eq rfl) (CN.pay (W := 0) A625 (m_ch l Z a0 hw rb (0 : Int32) c0 h625 n0 A625.old hc0) (wd hw 192 rfl) (wd hw 2 rfl) (by decide) (by decide)) (kc := 0) (ks := 0) (by decide) (by decide) all0 (fun _ => sf0) fun v627 T627 h627 L627 A627 K627 q627 => ?_
            obtain ⟨rfl, hh627⟩ := q627
            obtain rfl := hh627.symm
            show Wp pG e below _ T627 (mkF m 45 _ [(.int c0)])
            refine f_bipush A627 at_45 (pc' := 47) rfl 46 rfl ?_
            refine f_icN A627 at_47 (feq q0).1 (pc' := 50) rfl ?_
            refine f_iload A627 at_50 (pc' := 52) rfl rfl ?_
            refine f_iconst A627 at_52 (pc' := 53) rfl 1 rfl ?_
            refine f_icN A627 at_53 (tlt (by decide : (1 : Int32) < (3 : Int32))).2.2.2 (pc' := 56) rfl ?_
            refine f_iloadN A627 at_56 (pc' := 57) rfl rfl ?_
            refine f_iconst A627 at_57 (pc' := 58) rfl 1 rfl ?_
            refine f_callS A627 at_58 (pc' := 61) rfl (wd hw 190 rfl) (wd hw 191 rfl) (wd hw 2 rfl) (wd hw 192 rfl) (by decide) pd16 [(.int rb), (.int (1 : Int32))] [] rfl rfl rfl 0 (Nat.le_of_eq rfl) (CN.pay (W := 0) A627 (m_ch l Z a0 hw rb (1 : Int32) c1 h625 n0 A627.old hc1) (wd hw 192 rfl) (wd hw 2 rfl) (by decide) (by decide)) (kc := 0) (ks := 0) (by decide) (by decide) all0 (fun _ => sf0) fun v628 T628 h628 L628 A628 K628 q628 => ?_
            obtain ⟨rfl, hh628⟩ := q628
            obtain rfl := hh628.symm
            show Wp pG e below _ T628 (mkF m 61 _ [(.int c1)])
            refine f_bipush A628 at_61 (pc' := 63) rfl 46 rfl ?_
            refine f_icN A628 at_63 (feq q1).1 (pc' := 66) rfl ?_
            refine f_iload A628 at_66 (pc' := 68) rfl rfl ?_
            refine f_iconst A628 at_68 (pc' := 69) rfl 2 rfl ?_
            refine f_icN A628 at_69 (tlt (by decide : (2 : Int32) < (3 : Int32))).2.2.2 (pc' := 72) rfl ?_
            refine f_iloadN A628 at_72 (pc' := 73) rfl rfl ?_
            refine f_iconst A628 at_73 (pc' := 74) rfl 2 rfl ?_
            refine f_callS A628 at_74 (pc' := 77) rfl (wd hw 190 rfl) (wd hw 191 rfl) (wd hw 2 rfl) (wd hw 192 rfl) (by decide) pd16 [(.int rb), (.int (2 : Int32))] [] rfl rfl rfl 0 (Nat.le_of_eq rfl) (CN.pay (W := 0) A628 (m_ch l Z a0 hw rb (2 : Int32) c2 h625 n0 A628.old hc2) (wd hw 192 rfl) (wd hw 2 rfl) (by decide) (by decide)) (kc := 0) (ks := 0) (by decide) (by decide) all0 (fun _ => sf0) fun v629 T629 h629 L629 A629 K629 q629 => ?_
            obtain ⟨rfl, hh629⟩ := q629
            obtain rfl := hh629.symm
            show Wp pG e below _ T629 (mkF m 77 _ [(.int c2)])
            refine f_bipush A629 at_77 (pc' := 79) rfl 46 rfl ?_
            refine f_icY A629 at_79 (feq q2).2 (pc' := 86) (by decide) (by decide) ?_
            refine f_iconst A629 at_86 (pc' := 87) rfl 0 rfl ?_
            refine f_istore A629 at_87 (pc' := 89) rfl (L' := #[.val (.int lens), .val (.int nb), .val (.int rb), .val (.int (2 : Int32)), .val (.int (3 : Int32)), .val (.ref x602), .val (.ref x604), .val (.ref a625), .val (.int (0 : Int32)), .unset]) rfl ?_
            refine f_iload A629 at_89 (pc' := 91) rfl rfl ?_
            refine f_ifY A629 at_91 ((if0 _ _).trans (teq (by decide : (0 : Int32) = (0 : Int32))).1) (pc' := 102) (by decide) (by decide) ?_
            refine f_iloadN A629 at_102 (pc' := 103) rfl rfl ?_
            refine f_iconst A629 at_103 (pc' := 104) rfl 1 rfl ?_
            refine f_iadd A629 at_104 (pc' := 105) rfl (3 : Int32) (by decide) ?_
            refine f_iload A629 at_105 (pc' := 107) rfl rfl ?_
            refine f_iadd A629 at_107 (pc' := 108) rfl (6 : Int32) (by decide) ?_
            refine f_istore A629 at_108 (pc' := 110) rfl (L' := #[.val (.int lens), .val (.int nb), .val (.int rb), .val (.int (2 : Int32)), .val (.int (3 : Int32)), .val (.ref x602), .val (.ref x604), .val (.ref a625), .val (.int (0 : Int32)), .val (.int (6 : Int32))]) rfl ?_
            refine f_aload A629 at_110 (pc' := 112) rfl rfl rfl ?_
            refine f_callV A629 (a := a625) at_112 (pc' := 115) rfl (wd hw 170 rfl) (wd hw 94 rfl) (nfS A629 (wd hw 96 rfl)) (wd hw 96 rfl) (wd hw 95 rfl) (by decide) G625.exa pd5 [] [] rfl rfl rfl 0 (Nat.le_of_eq rfl) (payLen (W := 0) A629 hw (wd hw 5 rfl) G625 O2 P5 (by decide) (by decide)) (kc := 0) (ks := 0) (by decide) (by decide) all0 (fun _ => sf0) fun v630 T630 h630 L630 A630 K630 q630 => ?_
            obtain ⟨rfl, hh630⟩ := q630
            obtain rfl := hh630.symm
            show Wp pG e below _ T630 (mkF m 115 _ [(.int (6 : Int32))])
            refine f_iload A630 at_115 (pc' := 117) rfl rfl ?_
            refine f_icY A630 at_117 (teq (by decide : (6 : Int32) = (6 : Int32))).1 (pc' := 122) (by decide) (by decide) ?_
            refine f_aload A630 at_122 (pc' := 124) rfl rfl rfl ?_
            refine f_iconst A630 at_124 (pc' := 125) rfl 0 rfl ?_
            refine f_iload A630 at_125 (pc' := 127) rfl rfl ?_
            refine f_iloadN A630 at_127 (pc' := 128) rfl rfl ?_
            refine f_iloadN A630 at_128 (pc' := 129) rfl rfl ?_
            refine f_iloadN A630 at_129 (pc' := 130) rfl rfl ?_
            refine f_callS A630 at_130 (pc' := 133) rfl (wd hw 171 rfl) (wd hw 172 rfl) (wd hw 2 rfl) (wd hw 173 rfl) (by decide) pd27 [(.ref a625), (.int (0 : Int32)), (.int (6 : Int32)), (.int (2 : Int32)), (.int nb), (.int rb)] [] rfl rfl rfl 0 (Nat.le_of_eq rfl) (CN.pay (W := 0) A630 (m_okN l Z a0 hw a625 (0 : Int32) (6 : Int32) (2 : Int32) nb rb b625 [e0, e1, (46 : Int32), c0, c1, c2] 0 e0 zc O2 P5 fm O4 rG3 h625 n0 A630.old G625 (lat2 (lc s0 (lc s1 (lc (by decide) (lc r0 (lc r1 (lc r2 ln))))))) (Nat.le_of_ble_eq_true rfl) rfl rfl (by decide) (by decide) he0) (wd hw 173 rfl) (wd hw 2 rfl) (by decide) (by decide)) (kc := 0) (ks := 0) (by decide) (by decide) all0 (fun _ => sf0) fun v631 T631 h631 L631 A631 K631 q631 => ?_
            obtain ⟨rfl, hh631⟩ := q631
            obtain rfl := hh631.symm
            show Wp pG e below _ T631 (mkF m 133 _ [(.int (1 : Int32))])
            refine f_ifN A631 at_133 ((if0 _ _).trans (feq (by decide : ¬ (1 : Int32) = (0 : Int32))).1) (pc' := 136) rfl ?_
            refine f_aload A631 at_136 (pc' := 138) rfl rfl rfl ?_
            refine f_iconst A631 at_138 (pc' := 139) rfl 1 rfl ?_
            refine f_iload A631 at_139 (pc' := 141) rfl rfl ?_
            refine f_iloadN A631 at_141 (pc' := 142) rfl rfl ?_
            refine f_iloadN A631 at_142 (pc' := 143) rfl rfl ?_
            refine f_iloadN A631 at_143 (pc' := 144) rfl rfl ?_
            refine f_callS A631 at_144 (pc' := 147) rfl (wd hw 171 rfl) (wd hw 172 rfl) (wd hw 2 rfl) (wd hw 173 rfl) (by decide) pd27 [(.ref a625), (.int (1 : Int32)), (.int (6 : Int32)), (.int (2 : Int32)), (.int nb), (.int rb)] [] rfl rfl rfl 0 (Nat.le_of_eq rfl) (CN.pay (W := 0) A631 (m_okN l Z a0 hw a625 (1 : Int32) (6 : Int32) (2 : Int32) nb rb b625 [e0, e1, (46 : Int32), c0, c1, c2] 1 e1 zc O2 P5 fm O4 rG3 h625 n0 A631.old G625 (lat2 (lc s0 (lc s1 (lc (by decide) (lc r0 (lc r1 (lc r2 ln))))))) (Nat.le_of_ble_eq_true rfl) rfl rfl (by decide) (by decide) he1) (wd hw 173 rfl) (wd hw 2 rfl) (by decide) (by decide)) (kc := 0) (ks := 0) (by decide) (by decide) all0 (fun _ => sf0) fun v632 T632 h632 L632 A632 K632 q632 => ?_
            obtain ⟨rfl, hh632⟩ := q632
            obtain rfl := hh632.symm
            show Wp pG e below _ T632 (mkF m 147 _ [(.int (1 : Int32))])
            refine f_ifN A632 at_147 ((if0 _ _).trans (feq (by decide : ¬ (1 : Int32) = (0 : Int32))).1) (pc' := 150) rfl ?_
            refine f_aload A632 at_150 (pc' := 152) rfl rfl rfl ?_
            refine f_iconst A632 at_152 (pc' := 153) rfl 2 rfl ?_
            refine f_iload A632 at_153 (pc' := 155) rfl rfl ?_
            refine f_iloadN A632 at_155 (pc' := 156) rfl rfl ?_
            refine f_iloadN A632 at_156 (pc' := 157) rfl rfl ?_
            refine f_iloadN A632 at_157 (pc' := 158) rfl rfl ?_
            refine f_callS A632 at_158 (pc' := 161) rfl (wd hw 171 rfl) (wd hw 172 rfl) (wd hw 2 rfl) (wd hw 173 rfl) (by decide) pd27 [(.ref a625), (.int (2 : Int32)), (.int (6 : Int32)), (.int (2 : Int32)), (.int nb), (.int rb)] [] rfl rfl rfl 0 (Nat.le_of_eq rfl) (CN.pay (W := 0) A632 (m_okD l Z a0 hw a625 (2 : Int32) (6 : Int32) (2 : Int32) nb rb b625 [e0, e1, (46 : Int32), c0, c1, c2] 2 (46 : Int32) zc O2 P5 fm O4 rG3 h625 n0 A632.old G625 (lat2 (lc s0 (lc s1 (lc (by decide) (lc r0 (lc r1 (lc r2 ln))))))) (Nat.le_of_ble_eq_true rfl) rfl rfl (by decide) rfl (by decide) rfl) (wd hw 173 rfl) (wd hw 2 rfl) (by decide) (by decide)) (kc := 0) (ks := 0) (by decide) (by decide) all0 (fun _ => sf0) fun v633 T633 h633 L633 A633 K633 q633 => ?_
            obtain ⟨rfl, hh633⟩ := q633
            obtain rfl := hh633.symm
            show Wp pG e below _ T633 (mkF m 161 _ [(.int (1 : Int32))])
            refine f_ifN A633 at_161 ((if0 _ _).trans (feq (by decide : ¬ (1 : Int32) = (0 : Int32))).1) (pc' := 164) rfl ?_
            refine f_aload A633 at_164 (pc' := 166) rfl rfl rfl ?_
            refine f_iconst A633 at_166 (pc' := 167) rfl 3 rfl ?_
            refine f_iload A633 at_167 (pc' := 169) rfl rfl ?_
            refine f_iloadN A633 at_169 (pc' := 170) rfl rfl ?_
            refine f_iloadN A633 at_170 (pc' := 171) rfl rfl ?_
            refine f_iloadN A633 at_171 (pc' := 172) rfl rfl ?_
            refine f_callS A633 at_172 (pc' := 175) rfl (wd hw 171 rfl) (wd hw 172 rfl) (wd hw 2 rfl) (wd hw 173 rfl) (by decide) pd27 [(.ref a625), (.int (3 : Int32)), (.int (6 : Int32)), (.int (2 : Int32)), (.int nb), (.int rb)] [] rfl rfl rfl 0 (Nat.le_of_eq rfl) (CN.pay (W := 0) A633 (m_okR l Z a0 hw a625 (3 : Int32) (6 : Int32) (2 : Int32) nb rb b625 [e0, e1, (46 : Int32), c0, c1, c2] 3 c0 zc O2 P5 fm O4 rG3 h625 n0 A633.old G625 (lat2 (lc s0 (lc s1 (lc (by decide) (lc r0 (lc r1 (lc r2 ln))))))) (Nat.le_of_ble_eq_true rfl) rfl rfl (by decide) (by decide) (by decide) hc0) (wd hw 173 rfl) (wd hw 2 rfl) (by decide) (by decide)) (kc := 0) (ks := 0) (by decide) (by decide) all0 (fun _ => sf0) fun v634 T634 h634 L634 A634 K634 q634 => ?_
            obtain ⟨rfl, hh634⟩ := q634
            obtain rfl := hh634.symm
            show Wp pG e below _ T634 (mkF m 175 _ [(.int (1 : Int32))])
            refine f_ifN A634 at_175 ((if0 _ _).trans (feq (by decide : ¬ (1 : Int32) = (0 : Int32))).1) (pc' := 178) rfl ?_
            refine f_aload A634 at_178 (pc' := 180) rfl rfl rfl ?_
            refine f_iconst A634 at_180 (pc' := 181) rfl 4 rfl ?_
            refine f_iload A634 at_181 (pc' := 183) rfl rfl ?_
            refine f_iloadN A634 at_183 (pc' := 184) rfl rfl ?_
            refine f_iloadN A634 at_184 (pc' := 185) rfl rfl ?_
            refine f_iloadN A634 at_185 (pc' := 186) rfl rfl ?_
            refine f_callS A634 at_186 (pc' := 189) rfl (wd hw 171 rfl) (wd hw 172 rfl) (wd hw 2 rfl) (wd hw 173 rfl) (by decide) pd27 [(.ref a625), (.int (4 : Int32)), (.int (6 : Int32)), (.int (2 : Int32)), (.int nb), (.int rb)] [] rfl rfl rfl 0 (Nat.le_of_eq rfl) (CN.pay (W := 0) A634 (m_okR l Z a0 hw a625 (4 : Int32) (6 : Int32) (2 : Int32) nb rb b625 [e0, e1, (46 : Int32), c0, c1, c2] 4 c1 zc O2 P5 fm O4 rG3 h625 n0 A634.old G625 (lat2 (lc s0 (lc s1 (lc (by decide) (lc r0 (lc r1 (lc r2 ln))))))) (Nat.le_of_ble_eq_true rfl) rfl rfl (by decide) (by decide) (by decide) hc1) (wd hw 173 rfl) (wd hw 2 rfl) (by decide) (by decide)) (kc := 0) (ks := 0) (by decide) (by decide) all0 (fun _ => sf0) fun v635 T635 h635 L635 A635 K635 q635 => ?_
            obtain ⟨rfl, hh635⟩ := q635
            obtain rfl := hh635.symm
            show Wp pG e below _ T635 (mkF m 189 _ [(.int (1 : Int32))])
            refine f_ifN A635 at_189 ((if0 _ _).trans (feq (by decide : ¬ (1 : Int32) = (0 : Int32))).1) (pc' := 192) rfl ?_
            refine f_aload A635 at_192 (pc' := 194) rfl rfl rfl ?_
            refine f_iconst A635 at_194 (pc' := 195) rfl 5 rfl ?_
            refine f_iload A635 at_195 (pc' := 197) rfl rfl ?_
            refine f_iloadN A635 at_197 (pc' := 198) rfl rfl ?_
            refine f_iloadN A635 at_198 (pc' := 199) rfl rfl ?_
            refine f_iloadN A635 at_199 (pc' := 200) rfl rfl ?_
            refine f_callS A635 at_200 (pc' := 203) rfl (wd hw 171 rfl) (wd hw 172 rfl) (wd hw 2 rfl) (wd hw 173 rfl) (by decide) pd27 [(.ref a625), (.int (5 : Int32)), (.int (6 : Int32)), (.int (2 : Int32)), (.int nb), (.int rb)] [] rfl rfl rfl 0 (Nat.le_of_eq rfl) (CN.pay (W := 0) A635 (m_okR l Z a0 hw a625 (5 : Int32) (6 : Int32) (2 : Int32) nb rb b625 [e0, e1, (46 : Int32), c0, c1, c2] 5 c2 zc O2 P5 fm O4 rG3 h625 n0 A635.old G625 (lat2 (lc s0 (lc s1 (lc (by decide) (lc r0 (lc r1 (lc r2 ln))))))) (Nat.le_of_ble_eq_true rfl) rfl rfl (by decide) (by decide) (by decide) hc2) (wd hw 173 rfl) (wd hw 2 rfl) (by decide) (by decide)) (kc := 0) (ks := 0) (by decide) (by decide) all0 (fun _ => sf0) fun v636 T636 h636 L636 A636 K636 q636 => ?_
            obtain ⟨rfl, hh636⟩ := q636
            obtain rfl := hh636.symm
            show Wp pG e below _ T636 (mkF m 203 _ [(.int (1 : Int32))])
            refine f_ifN A636 at_203 ((if0 _ _).trans (feq (by decide : ¬ (1 : Int32) = (0 : Int32))).1) (pc' := 206) rfl ?_
            refine f_aload A636 at_206 (pc' := 208) rfl rfl rfl ?_
            refine f_bipush A636 at_208 (pc' := 210) rfl 6 rfl ?_
            refine f_iload A636 at_210 (pc' := 212) rfl rfl ?_
            refine f_iloadN A636 at_212 (pc' := 213) rfl rfl ?_
            refine f_iloadN A636 at_213 (pc' := 214) rfl rfl ?_
            refine f_iloadN A636 at_214 (pc' := 215) rfl rfl ?_
            refine f_callS A636 at_215 (pc' := 218) rfl (wd hw 171 rfl) (wd hw 172 rfl) (wd hw 2 rfl) (wd hw 173 rfl) (by decide) pd27 [(.ref a625), (.int (6 : Int32)), (.int (6 : Int32)), (.int (2 : Int32)), (.int nb), (.int rb)] [] rfl rfl rfl 0 (Nat.le_of_eq rfl) (CN.pay (W := 0) A636 (m_okO l Z a0 hw a625 (6 : Int32) (6 : Int32) (2 : Int32) nb rb h625 n0 A636.old (by decide)) (wd hw 173 rfl) (wd hw 2 rfl) (by decide) (by decide)) (kc := 0) (ks := 0) (by decide) (by decide) all0 (fun _ => sf0) fun v637 T637 h637 L637 A637 K637 q637 => ?_
            obtain ⟨rfl, hh637⟩ := q637
            obtain rfl := hh637.symm
            show Wp pG e below _ T637 (mkF m 218 _ [(.int (1 : Int32))])
            refine f_ifN A637 at_218 ((if0 _ _).trans (feq (by decide : ¬ (1 : Int32) = (0 : Int32))).1) (pc' := 221) rfl ?_
            refine f_iconst A637 at_221 (pc' := 222) rfl 1 rfl ?_
            refine f_goto A637 at_222 (pc' := 226) (by decide) (by decide) ?_
            exact f_retBW A637 hEL hlk hret at_226 (by decide) (1 : Int32) (by decide) (by decide) (by decide) Q626 rfl
  · rcases hn4 with rfl | rfl | rfl | rfl
    · refine f_iloadN A0 at_0 (pc' := 1) rfl rfl ?_
      refine f_iconst A0 at_1 (pc' := 2) rfl 3 rfl ?_
      refine f_iand A0 at_2 (pc' := 3) rfl (3 : Int32) hm0 ?_
      refine f_istoreN A0 at_3 (pc' := 4) rfl (L' := #[.val (.int lens), .val (.int nb), .val (.int rb), .val (.int (3 : Int32)), .unset, .unset, .unset, .unset, .unset, .unset]) rfl ?_
      refine f_iloadN A0 at_4 (pc' := 5) rfl rfl ?_
      refine f_iconst A0 at_5 (pc' := 6) rfl 2 rfl ?_
      refine f_iushr A0 at_6 (pc' := 7) rfl ((lens.toUInt32 >>> ((2 : Int32) &&& 31).toUInt32).toInt32) rfl ?_
      refine f_iconst A0 at_7 (pc' := 8) rfl 3 rfl ?_
      refine f_iand A0 at_8 (pc' := 9) rfl (0 : Int32) hn1 ?_
      refine f_istore A0 at_9 (pc' := 11) rfl (L' := #[.val (.int lens), .val (.int nb), .val (.int rb), .val (.int (3 : Int32)), .val (.int (0 : Int32)), .unset, .unset, .unset, .unset, .unset]) rfl ?_
      refine f_iloadN A0 at_11 (pc' := 12) rfl rfl ?_
      refine f_iloadN A0 at_12 (pc' := 13) rfl rfl ?_
      refine f_callSW A0 at_13 (pc' := 16) rfl (wd hw 0 rfl) (wd hw 1 rfl) (wd hw 2 rfl) (wd hw 3 rfl) (by decide) pd25 [(.int (3 : Int32)), (.int nb)] [] rfl rfl rfl 0 (Nat.le_of_eq rfl) (CW.pay (W := 0) A0 hEL (m_str3 l Z a0 hw nb e0 e1 e2 zc O2 P5 h0 n0 A0.old hEL he0 s0 he1 s1 he2 s2) (wd hw 3 rfl) (wd hw 2 rfl) (by decide) (by decide) (fun _ q => nomatch q)) (kc := 4) (ks := 14) (by decide) (by decide) all0 fun v638 vm638 T638 h638 L638 A638 K638 C638 q638 => ?_
      have Q639 : Keep h0 h638 [] := K0.trans K638 all0
      obtain ⟨x638, t638, rfl, xg638, G638⟩ := q638
      show Wp pG e below _ T638 (mkF m 16 _ [(.ref x638)])
      refine f_astore A638 at_16 (pc' := 18) rfl rfl (L' := #[.val (.int lens), .val (.int nb), .val (.int rb), .val (.int (3 : Int32)), .val (.int (0 : Int32)), .val (.ref x638), .unset, .unset, .unset, .unset]) rfl ?_
      refine f_iload A638 at_18 (pc' := 20) rfl rfl ?_
      refine f_iloadN A638 at_20 (pc' := 21) rfl rfl ?_
      refine f_callSW A638 at_21 (pc' := 24) rfl (wd hw 0 rfl) (wd hw 1 rfl) (wd hw 2 rfl) (wd hw 3 rfl) (by decide) pd25 [(.int (0 : Int32)), (.int rb)] [] rfl rfl rfl 0 (Nat.le_of_eq rfl) (CW.pay (W := 0) A638 hEL (m_str0 l Z a0 hw rb c0 c1 c2 zc O2 P5 h638 n0 A638.old hEL hc0 r0 hc1 r1 hc2 r2) (wd hw 3 rfl) (wd hw 2 rfl) (by decide) (by decide) (fun _ q => nomatch q)) (kc := 4) (ks := 14) (by decide) (by decide) all0 fun v640 vm640 T640 h640 L640 A640 K640 C640 q640 => ?_
      have Q641 : Keep h0 h640 [] := Q639.trans K640 all0
      obtain ⟨x640, t640, rfl, xg640, G640⟩ := q640
      show Wp pG e below _ T640 (mkF m 24 _ [(.ref x640)])
      refine f_astore A640 at_24 (pc' := 26) rfl rfl (L' := #[.val (.int lens), .val (.int nb), .val (.int rb), .val (.int (3 : Int32)), .val (.int (0 : Int32)), .val (.ref x638), .val (.ref x640), .unset, .unset, .unset]) rfl ?_
      refine f_aload A640 at_26 (pc' := 28) rfl rfl rfl ?_
      refine f_aload A640 at_28 (pc' := 30) rfl rfl rfl ?_
      have c642 := (G638.keep K640 nin0 nin0)
      refine f_callSW A640 at_30 (pc' := 33) rfl (wd hw 26 rfl) (wd hw 27 rfl) (wd hw 28 rfl) (wd hw 29 rfl) (by decide) pd26 [(.ref x638), (.ref x640)] [] rfl rfl rfl 0 (Nat.le_of_eq rfl) (CW.pay (W := 0) A640 hEL (m_qn0 l Z a0 hw x638 t638 x640 t640 [e0, e1, e2]  zc O2 P5 h640 n0 A640.old hEL c642 G640 (lc s0 (lc s1 (lc s2 ln))) (Nat.le_of_ble_eq_true rfl)  (by simp [idxD, *])) (wd hw 29 rfl) (wd hw 28 rfl) (by decide) (by decide) (fun _ q => nomatch q)) (kc := 9) (ks := 150) (by decide) (by decide) all0 fun v643 vm643 T643 h643 L643 A643 K643 C643 q643 => ?_
      have Q644 : Keep h0 h643 [] := Q641.trans K643 all0
      obtain ⟨a643, b643, rfl, ag643, G643⟩ := q643
      have G643 : Str Z h643 a643 b643 [e0, e1, e2, (46 : Int32)] := G643
      show Wp pG e below _ T643 (mkF m 33 _ [(.ref a643)])
      refine f_astore A643 at_33 (pc' := 35) rfl rfl (L' := #[.val (.int lens), .val (.int nb), .val (.int rb), .val (.int (3 : Int32)), .val (.int (0 : Int32)), .val (.ref x638), .val (.ref x640), .val (.ref a643), .unset, .unset]) rfl ?_
      refine f_iload A643 at_35 (pc' := 37) rfl rfl ?_
      refine f_ifY A643 at_37 ((if0 _ _).trans (flt (by decide : ¬ (0 : Int32) < (0 : Int32))).2.2.2) (pc' := 50) (by decide) (by decide) ?_
      refine f_iload A643 at_50 (pc' := 52) rfl rfl ?_
      refine f_iconst A643 at_52 (pc' := 53) rfl 1 rfl ?_
      refine f_icY A643 at_53 (flt (by decide : ¬ (1 : Int32) < (0 : Int32))).2.2.2 (pc' := 66) (by decide) (by decide) ?_
      refine f_iload A643 at_66 (pc' := 68) rfl rfl ?_
      refine f_iconst A643 at_68 (pc' := 69) rfl 2 rfl ?_
      refine f_icY A643 at_69 (flt (by decide : ¬ (2 : Int32) < (0 : Int32))).2.2.2 (pc' := 86) (by decide) (by decide) ?_
      refine f_iconst A643 at_86 (pc' := 87) rfl 0 rfl ?_
      refine f_istore A643 at_87 (pc' := 89) rfl (L' := #[.val (.int lens), .val (.int nb), .val (.int rb), .val (.int (3 : Int32)), .val (.int (0 : Int32)), .val (.ref x638), .val (.ref x640), .val (.ref a643), .val (.int (0 : Int32)), .unset]) rfl ?_
      refine f_iload A643 at_89 (pc' := 91) rfl rfl ?_
      refine f_ifY A643 at_91 ((if0 _ _).trans (teq (by decide : (0 : Int32) = (0 : Int32))).1) (pc' := 102) (by decide) (by decide) ?_
      refine f_iloadN A643 at_102 (pc' := 103) rfl rfl ?_
      refine f_iconst A643 at_103 (pc' := 104) rfl 1 rfl ?_
      refine f_iadd A643 at_104 (pc' := 105) rfl (4 : Int32) (by decide) ?_
      refine f_iload A643 at_105 (pc' := 107) rfl rfl ?_
      refine f_iadd A643 at_107 (pc' := 108) rfl (4 : Int32) (by decide) ?_
      refine f_istore A643 at_108 (pc' := 110) rfl (L' := #[.val (.int lens), .val (.int nb), .val (.int rb), .val (.int (3 : Int32)), .val (.int (0 : Int32)), .val (.ref x638), .val (.ref x640), .val (.ref a643), .val (.int (0 : Int32)), .val (.int (4 : Int32))]) rfl ?_
      refine f_aload A643 at_110 (pc' := 112) rfl rfl rfl ?_
      refine f_callV A643 (a := a643) at_112 (pc' := 115) rfl (wd hw 170 rfl) (wd hw 94 rfl) (nfS A643 (wd hw 96 rfl)) (wd hw 96 rfl) (wd hw 95 rfl) (by decide) G643.exa pd5 [] [] rfl rfl rfl 0 (Nat.le_of_eq rfl) (payLen (W := 0) A643 hw (wd hw 5 rfl) G643 O2 P5 (by decide) (by decide)) (kc := 0) (ks := 0) (by decide) (by decide) all0 (fun _ => sf0) fun v645 T645 h645 L645 A645 K645 q645 => ?_
      obtain ⟨rfl, hh645⟩ := q645
      obtain rfl := hh645.symm
      show Wp pG e below _ T645 (mkF m 115 _ [(.int (4 : Int32))])
      refine f_iload A645 at_115 (pc' := 117) rfl rfl ?_
      refine f_icY A645 at_117 (teq (by decide : (4 : Int32) = (4 : Int32))).1 (pc' := 122) (by decide) (by decide) ?_
      refine f_aload A645 at_122 (pc' := 124) rfl rfl rfl ?_
      refine f_iconst A645 at_124 (pc' := 125) rfl 0 rfl ?_
      refine f_iload A645 at_125 (pc' := 127) rfl rfl ?_
      refine f_iloadN A645 at_127 (pc' := 128) rfl rfl ?_
      refine f_iloadN A645 at_128 (pc' := 129) rfl rfl ?_
      refine f_iloadN A645 at_129 (pc' := 130) rfl rfl ?_
      refine f_callS A645 at_130 (pc' := 133) rfl (wd hw 171 rfl) (wd hw 172 rfl) (wd hw 2 rfl) (wd hw 173 rfl) (by decide) pd27 [(.ref a643), (.int (0 : Int32)), (.int (4 : Int32)), (.int (3 : Int32)), (.int nb), (.int rb)] [] rfl rfl rfl 0 (Nat.le_of_eq rfl) (CN.pay (W := 0) A645 (m_okN l Z a0 hw a643 (0 : Int32) (4 : Int32) (3 : Int32) nb rb b643 [e0, e1, e2, (46 : Int32)] 0 e0 zc O2 P5 fm O4 rG3 h643 n0 A645.old G643 (lat2 (lc s0 (lc s1 (lc s2 (lc (by decide) ln))))) (Nat.le_of_ble_eq_true rfl) rfl rfl (by decide) (by decide) he0) (wd hw 173 rfl) (wd hw 2 rfl) (by decide) (by decide)) (kc := 0) (ks := 0) (by decide) (by decide) all0 (fun _ => sf0) fun v646 T646 h646 L646 A646 K646 q646 => ?_
      obtain ⟨rfl, hh646⟩ := q646
      obtain rfl := hh646.symm
      show Wp pG e below _ T646 (mkF m 133 _ [(.int (1 : Int32))])
      refine f_ifN A646 at_133 ((if0 _ _).trans (feq (by decide : ¬ (1 : Int32) = (0 : Int32))).1) (pc' := 136) rfl ?_
      refine f_aload A646 at_136 (pc' := 138) rfl rfl rfl ?_
      refine f_iconst A646 at_138 (pc' := 139) rfl 1 rfl ?_
      refine f_iload A646 at_139 (pc' := 141) rfl rfl ?_
      refine f_iloadN A646 at_141 (pc' := 142) rfl rfl ?_
      refine f_iloadN A646 at_142 (pc' := 143) rfl rfl ?_
      refine f_iloadN A646 at_143 (pc' := 144) rfl rfl ?_
      refine f_callS A646 at_144 (pc' := 147) rfl (wd hw 171 rfl) (wd hw 172 rfl) (wd hw 2 rfl) (wd hw 173 rfl) (by decide) pd27 [(.ref a643), (.int (1 : Int32)), (.int (4 : Int32)), (.int (3 : Int32)), (.int nb), (.int rb)] [] rfl rfl rfl 0 (Nat.le_of_eq rfl) (CN.pay (W := 0) A646 (m_okN l Z a0 hw a643 (1 : Int32) (4 : Int32) (3 : Int32) nb rb b643 [e0, e1, e2, (46 : Int32)] 1 e1 zc O2 P5 fm O4 rG3 h643 n0 A646.old G643 (lat2 (lc s0 (lc s1 (lc s2 (lc (by decide) ln))))) (Nat.le_of_ble_eq_true rfl) rfl rfl (by decide) (by decide) he1) (wd hw 173 rfl) (wd hw 2 rfl) (by decide) (by decide)) (kc := 0) (ks := 0) (by decide) (by decide) all0 (fun _ => sf0) fun v647 T647 h647 L647 A647 K647 q647 => ?_
      obtain ⟨rfl, hh647⟩ := q647
      obtain rfl := hh647.symm
      show Wp pG e below _ T647 (mkF m 147 _ [(.int (1 : Int32))])
      refine f_ifN A647 at_147 ((if0 _ _).trans (feq (by decide : ¬ (1 : Int32) = (0 : Int32))).1) (pc' := 150) rfl ?_
      refine f_aload A647 at_150 (pc' := 152) rfl rfl rfl ?_
      refine f_iconst A647 at_152 (pc' := 153) rfl 2 rfl ?_
      refine f_iload A647 at_153 (pc' := 155) rfl rfl ?_
      refine f_iloadN A647 at_155 (pc' := 156) rfl rfl ?_
      refine f_iloadN A647 at_156 (pc' := 157) rfl rfl ?_
      refine f_iloadN A647 at_157 (pc' := 158) rfl rfl ?_
      refine f_callS A647 at_158 (pc' := 161) rfl (wd hw 171 rfl) (wd hw 172 rfl) (wd hw 2 rfl) (wd hw 173 rfl) (by decide) pd27 [(.ref a643), (.int (2 : Int32)), (.int (4 : Int32)), (.int (3 : Int32)), (.int nb), (.int rb)] [] rfl rfl rfl 0 (Nat.le_of_eq rfl) (CN.pay (W := 0) A647 (m_okN l Z a0 hw a643 (2 : Int32) (4 : Int32) (3 : Int32) nb rb b643 [e0, e1, e2, (46 : Int32)] 2 e2 zc O2 P5 fm O4 rG3 h643 n0 A647.old G643 (lat2 (lc s0 (lc s1 (lc s2 (lc (by decide) ln))))) (Nat.le_of_ble_eq_true rfl) rfl rfl (by decide) (by decide) he2) (wd hw 173 rfl) (wd hw 2 rfl) (by decide) (by decide)) (kc := 0) (ks := 0) (by decide) (by decide) all0 (fun _ => sf0) fun v648 T648 h648 L648 A648 K648 q648 => ?_
      obtain ⟨rfl, hh648⟩ := q648
      obtain rfl := hh648.symm
      show Wp pG e below _ T648 (mkF m 161 _ [(.int (1 : Int32))])
      refine f_ifN A648 at_161 ((if0 _ _).trans (feq (by decide : ¬ (1 : Int32) = (0 : Int32))).1) (pc' := 164) rfl ?_
      refine f_aload A648 at_164 (pc' := 166) rfl rfl rfl ?_
      refine f_iconst A648 at_166 (pc' := 167) rfl 3 rfl ?_
      refine f_iload A648 at_167 (pc' := 169) rfl rfl ?_
      refine f_iloadN A648 at_169 (pc' := 170) rfl rfl ?_
      refine f_iloadN A648 at_170 (pc' := 171) rfl rfl ?_
      refine f_iloadN A648 at_171 (pc' := 172) rfl rfl ?_
      refine f_callS A648 at_172 (pc' := 175) rfl (wd hw 171 rfl) (wd hw 172 rfl) (wd hw 2 rfl) (wd hw 173 rfl) (by decide) pd27 [(.ref a643), (.int (3 : Int32)), (.int (4 : Int32)), (.int (3 : Int32)), (.int nb), (.int rb)] [] rfl rfl rfl 0 (Nat.le_of_eq rfl) (CN.pay (W := 0) A648 (m_okD l Z a0 hw a643 (3 : Int32) (4 : Int32) (3 : Int32) nb rb b643 [e0, e1, e2, (46 : Int32)] 3 (46 : Int32) zc O2 P5 fm O4 rG3 h643 n0 A648.old G643 (lat2 (lc s0 (lc s1 (lc s2 (lc (by decide) ln))))) (Nat.le_of_ble_eq_true rfl) rfl rfl (by decide) rfl (by decide) rfl) (wd hw 173 rfl) (wd hw 2 rfl) (by decide) (by decide)) (kc := 0) (ks := 0) (by decide) (by decide) all0 (fun _ => sf0) fun v649 T649 h649 L649 A649 K649 q649 => ?_
      obtain ⟨rfl, hh649⟩ := q649
      obtain rfl := hh649.symm
      show Wp pG e below _ T649 (mkF m 175 _ [(.int (1 : Int32))])
      refine f_ifN A649 at_175 ((if0 _ _).trans (feq (by decide : ¬ (1 : Int32) = (0 : Int32))).1) (pc' := 178) rfl ?_
      refine f_aload A649 at_178 (pc' := 180) rfl rfl rfl ?_
      refine f_iconst A649 at_180 (pc' := 181) rfl 4 rfl ?_
      refine f_iload A649 at_181 (pc' := 183) rfl rfl ?_
      refine f_iloadN A649 at_183 (pc' := 184) rfl rfl ?_
      refine f_iloadN A649 at_184 (pc' := 185) rfl rfl ?_
      refine f_iloadN A649 at_185 (pc' := 186) rfl rfl ?_
      refine f_callS A649 at_186 (pc' := 189) rfl (wd hw 171 rfl) (wd hw 172 rfl) (wd hw 2 rfl) (wd hw 173 rfl) (by decide) pd27 [(.ref a643), (.int (4 : Int32)), (.int (4 : Int32)), (.int (3 : Int32)), (.int nb), (.int rb)] [] rfl rfl rfl 0 (Nat.le_of_eq rfl) (CN.pay (W := 0) A649 (m_okO l Z a0 hw a643 (4 : Int32) (4 : Int32) (3 : Int32) nb rb h643 n0 A649.old (by decide)) (wd hw 173 rfl) (wd hw 2 rfl) (by decide) (by decide)) (kc := 0) (ks := 0) (by decide) (by decide) all0 (fun _ => sf0) fun v650 T650 h650 L650 A650 K650 q650 => ?_
      obtain ⟨rfl, hh650⟩ := q650
      obtain rfl := hh650.symm
      show Wp pG e below _ T650 (mkF m 189 _ [(.int (1 : Int32))])
      refine f_ifN A650 at_189 ((if0 _ _).trans (feq (by decide : ¬ (1 : Int32) = (0 : Int32))).1) (pc' := 192) rfl ?_
      refine f_aload A650 at_192 (pc' := 194) rfl rfl rfl ?_
      refine f_iconst A650 at_194 (pc' := 195) rfl 5 rfl ?_
      refine f_iload A650 at_195 (pc' := 197) rfl rfl ?_
      refine f_iloadN A650 at_197 (pc' := 198) rfl rfl ?_
      refine f_iloadN A650 at_198 (pc' := 199) rfl rfl ?_
      refine f_iloadN A650 at_199 (pc' := 200) rfl rfl ?_
      refine f_callS A650 at_200 (pc' := 203) rfl (wd hw 171 rfl) (wd hw 172 rfl) (wd hw 2 rfl) (wd hw 173 rfl) (by decide) pd27 [(.ref a643), (.int (5 : Int32)), (.int (4 : Int32)), (.int (3 : Int32)), (.int nb), (.int rb)] [] rfl rfl rfl 0 (Nat.le_of_eq rfl) (CN.pay (W := 0) A650 (m_okO l Z a0 hw a643 (5 : Int32) (4 : Int32) (3 : Int32) nb rb h643 n0 A650.old (by decide)) (wd hw 173 rfl) (wd hw 2 rfl) (by decide) (by decide)) (kc := 0) (ks := 0) (by decide) (by decide) all0 (fun _ => sf0) fun v651 T651 h651 L651 A651 K651 q651 => ?_
      obtain ⟨rfl, hh651⟩ := q651
      obtain rfl := hh651.symm
      show Wp pG e below _ T651 (mkF m 203 _ [(.int (1 : Int32))])
      refine f_ifN A651 at_203 ((if0 _ _).trans (feq (by decide : ¬ (1 : Int32) = (0 : Int32))).1) (pc' := 206) rfl ?_
      refine f_aload A651 at_206 (pc' := 208) rfl rfl rfl ?_
      refine f_bipush A651 at_208 (pc' := 210) rfl 6 rfl ?_
      refine f_iload A651 at_210 (pc' := 212) rfl rfl ?_
      refine f_iloadN A651 at_212 (pc' := 213) rfl rfl ?_
      refine f_iloadN A651 at_213 (pc' := 214) rfl rfl ?_
      refine f_iloadN A651 at_214 (pc' := 215) rfl rfl ?_
      refine f_callS A651 at_215 (pc' := 218) rfl (wd hw 171 rfl) (wd hw 172 rfl) (wd hw 2 rfl) (wd hw 173 rfl) (by decide) pd27 [(.ref a643), (.int (6 : Int32)), (.int (4 : Int32)), (.int (3 : Int32)), (.int nb), (.int rb)] [] rfl rfl rfl 0 (Nat.le_of_eq rfl) (CN.pay (W := 0) A651 (m_okO l Z a0 hw a643 (6 : Int32) (4 : Int32) (3 : Int32) nb rb h643 n0 A651.old (by decide)) (wd hw 173 rfl) (wd hw 2 rfl) (by decide) (by decide)) (kc := 0) (ks := 0) (by decide) (by decide) all0 (fun _ => sf0) fun v652 T652 h652 L652 A652 K652 q652 => ?_
      obtain ⟨rfl, hh652⟩ := q652
      obtain rfl := hh652.symm
      show Wp pG e below _ T652 (mkF m 218 _ [(.int (1 : Int32))])
      refine f_ifN A652 at_218 ((if0 _ _).trans (feq (by decide : ¬ (1 : Int32) = (0 : Int32))).1) (pc' := 221) rfl ?_
      refine f_iconst A652 at_221 (pc' := 222) rfl 1 rfl ?_
      refine f_goto A652 at_222 (pc' := 226) (by decide) (by decide) ?_
      exact f_retBW A652 hEL hlk hret at_226 (by decide) (1 : Int32) (by decide) (by decide) (by decide) Q644 rfl
    · refine f_iloadN A0 at_0 (pc' := 1) rfl rfl ?_
      refine f_iconst A0 at_1 (pc' := 2) rfl 3 rfl ?_
      refine f_iand A0 at_2 (pc' := 3) rfl (3 : Int32) hm0 ?_
      refine f_istoreN A0 at_3 (pc' := 4) rfl (L' := #[.val (.int lens), .val (.int nb), .val (.int rb), .val (.int (3 : Int32)), .unset, .unset, .unset, .unset, .unset, .unset]) rfl ?_
      refine f_iloadN A0 at_4 (pc' := 5) rfl rfl ?_
      refine f_iconst A0 at_5 (pc' := 6) rfl 2 rfl ?_
      refine f_iushr A0 at_6 (pc' := 7) rfl ((lens.toUInt32 >>> ((2 : Int32) &&& 31).toUInt32).toInt32) rfl ?_
      refine f_iconst A0 at_7 (pc' := 8) rfl 3 rfl ?_
      refine f_iand A0 at_8 (pc' := 9) rfl (1 : Int32) hn1 ?_
      refine f_istore A0 at_9 (pc' := 11) rfl (L' := #[.val (.int lens), .val (.int nb), .val (.int rb), .val (.int (3 : Int32)), .val (.int (1 : Int32)), .unset, .unset, .unset, .unset, .unset]) rfl ?_
      refine f_iloadN A0 at_11 (pc' := 12) rfl rfl ?_
      refine f_iloadN A0 at_12 (pc' := 13) rfl rfl ?_
      refine f_callSW A0 at_13 (pc' := 16) rfl (wd hw 0 rfl) (wd hw 1 rfl) (wd hw 2 rfl) (wd hw 3 rfl) (by decide) pd25 [(.int (3 : Int32)), (.int nb)] [] rfl rfl rfl 0 (Nat.le_of_eq rfl) (CW.pay (W := 0) A0 hEL (m_str3 l Z a0 hw nb e0 e1 e2 zc O2 P5 h0 n0 A0.old hEL he0 s0 he1 s1 he2 s2) (wd hw 3 rfl) (wd hw 2 rfl) (by decide) (by decide) (fun _ q => nomatch q)) (kc := 4) (ks := 14) (by decide) (by decide) all0 fun v653 vm653 T653 h653 L653 A653 K653 C653 q653 => ?_
      have Q654 : Keep h0 h653 [] := K0.trans K653 all0
      obtain ⟨x653, t653, rfl, xg653, G653⟩ := q653
      show Wp pG e below _ T653 (mkF m 16 _ [(.ref x653)])
      refine f_astore A653 at_16 (pc' := 18) rfl rfl (L' := #[.val (.int lens), .val (.int nb), .val (.int rb), .val (.int (3 : Int32)), .val (.int (1 : Int32)), .val (.ref x653), .unset, .unset, .unset, .unset]) rfl ?_
      refine f_iload A653 at_18 (pc' := 20) rfl rfl ?_
      refine f_iloadN A653 at_20 (pc' := 21) rfl rfl ?_
      refine f_callSW A653 at_21 (pc' := 24) rfl (wd hw 0 rfl) (wd hw 1 rfl) (wd hw 2 rfl) (wd hw 3 rfl) (by decide) pd25 [(.int (1 : Int32)), (.int rb)] [] rfl rfl rfl 0 (Nat.le_of_eq rfl) (CW.pay (W := 0) A653 hEL (m_str1 l Z a0 hw rb c0 c1 c2 zc O2 P5 h653 n0 A653.old hEL hc0 r0 hc1 r1 hc2 r2) (wd hw 3 rfl) (wd hw 2 rfl) (by decide) (by decide) (fun _ q => nomatch q)) (kc := 4) (ks := 14) (by decide) (by decide) all0 fun v655 vm655 T655 h655 L655 A655 K655 C655 q655 => ?_
      have Q656 : Keep h0 h655 [] := Q654.trans K655 all0
      obtain ⟨x655, t655, rfl, xg655, G655⟩ := q655
      show Wp pG e below _ T655 (mkF m 24 _ [(.ref x655)])
      refine f_astore A655 at_24 (pc' := 26) rfl rfl (L' := #[.val (.int lens), .val (.int nb), .val (.int rb), .val (.int (3 : Int32)), .val (.int (1 : Int32)), .val (.ref x653), .val (.ref x655), .unset, .unset, .unset]) rfl ?_
      by_cases q0 : c0 = 46
      · refine f_aload A655 at_26 (pc' := 28) rfl rfl rfl ?_
        refine f_aload A655 at_28 (pc' := 30) rfl rfl rfl ?_
        refine f_callSW A655 at_30 (pc' := 33) rfl (wd hw 26 rfl) (wd hw 27 rfl) (wd hw 28 rfl) (wd hw 29 rfl) (by decide) pd26 [(.ref x653), (.ref x655)] [] rfl rfl rfl 0 (Nat.le_of_eq rfl) (CW.pay (W := 0) A655 hEL (m_qd1 l Z a0 hw x653 x655 t655 c0 zc O2 P5 h655 n0 A655.old hEL G655 r0 (by simp [idxD, *])) (wd hw 29 rfl) (wd hw 28 rfl) (by decide) (by decide) (fun _ q => nomatch q)) (kc := 2) (ks := 8) (by decide) (by decide) all0 fun v657 vm657 T657 h657 L657 A657 K657 C657 q657 => ?_
        have Q658 : Keep h0 h657 [] := Q656.trans K657 all0
        obtain rfl := q657
        show Wp pG e below _ T657 (mkF m 33 _ [(.ref x655)])
        refine f_astore A657 at_33 (pc' := 35) rfl rfl (L' := #[.val (.int lens), .val (.int nb), .val (.int rb), .val (.int (3 : Int32)), .val (.int (1 : Int32)), .val (.ref x653), .val (.ref x655), .val (.ref x655), .unset, .unset]) rfl ?_
        refine f_iload A657 at_35 (pc' := 37) rfl rfl ?_
        refine f_ifN A657 at_37 ((if0 _ _).trans (tlt (by decide : (0 : Int32) < (1 : Int32))).2.2.2) (pc' := 40) rfl ?_
        refine f_iloadN A657 at_40 (pc' := 41) rfl rfl ?_
        refine f_iconst A657 at_41 (pc' := 42) rfl 0 rfl ?_
        refine f_callS A657 at_42 (pc' := 45) rfl (wd hw 190 rfl) (wd hw 191 rfl) (wd hw 2 rfl) (wd hw 192 rfl) (by decide) pd16 [(.int rb), (.int (0 : Int32))] [] rfl rfl rfl 0 (Nat.le_of_eq rfl) (CN.pay (W := 0) A657 (m_ch l Z a0 hw rb (0 : Int32) c0 h657 n0 A657.old hc0) (wd hw 192 rfl) (wd hw 2 rfl) (by decide) (by decide)) (kc := 0) (ks := 0) (by decide) (by decide) all0 (fun _ => sf0) fun v659 T659 h659 L659 A659 K659 q659 => ?_
        obtain ⟨rfl, hh659⟩ := q659
        obtain rfl := hh659.symm
        show Wp pG e below _ T659 (mkF m 45 _ [(.int c0)])
        refine f_bipush A659 at_45 (pc' := 47) rfl 46 rfl ?_
        refine f_icY A659 at_47 (teq q0).1 (pc' := 82) (by decide) (by decide) ?_
        refine f_iconst A659 at_82 (pc' := 83) rfl 1 rfl ?_
        refine f_goto A659 at_83 (pc' := 87) (by decide) (by decide) ?_
        refine f_istore A659 at_87 (pc' := 89) rfl (L' := #[.val (.int lens), .val (.int nb), .val (.int rb), .val (.int (3 : Int32)), .val (.int (1 : Int32)), .val (.ref x653), .val (.ref x655), .val (.ref x655), .val (.int (1 : Int32)), .unset]) rfl ?_
        refine f_iload A659 at_89 (pc' := 91) rfl rfl ?_
        refine f_ifN A659 at_91 ((if0 _ _).trans (feq (by decide : ¬ (1 : Int32) = (0 : Int32))).1) (pc' := 94) rfl ?_
        refine f_aload A659 at_94 (pc' := 96) rfl rfl rfl ?_
        refine f_aload A659 at_96 (pc' := 98) rfl rfl rfl ?_
        have c661 := (G655.exa.keep K657)
        refine f_callV A659 (a := x655) at_98 (pc' := 101) rfl (wd hw 206 rfl) (wd hw 207 rfl) (nfS A659 (wd hw 209 rfl)) (wd hw 209 rfl) (wd hw 208 rfl) (by decide) c661 pd28 [(.ref x655)] [] rfl rfl rfl 0 (Nat.le_of_eq rfl) (CN.pay (W := 0) A659 (m_eqself l Z a0 hw x655 h657 n0 A659.old) (wd hw 210 rfl) (wd hw 6 rfl) (by decide) (by decide)) (kc := 0) (ks := 0) (by decide) (by decide) all0 (fun _ => sf0) fun v660 T660 h660 L660 A660 K660 q660 => ?_
        obtain ⟨rfl, hh660⟩ := q660
        obtain rfl := hh660.symm
        show Wp pG e below _ T660 (mkF m 101 _ [(.int (1 : Int32))])
        exact f_retBW A660 hEL hlk hret at_101 (by decide) (1 : Int32) (by decide) (by decide) (by decide) Q658 rfl
      · refine f_aload A655 at_26 (pc' := 28) rfl rfl rfl ?_
        refine f_aload A655 at_28 (pc' := 30) rfl rfl rfl ?_
        have c662 := (G653.keep K655 nin0 nin0)
        refine f_callSW A655 at_30 (pc' := 33) rfl (wd hw 26 rfl) (wd hw 27 rfl) (wd hw 28 rfl) (wd hw 29 rfl) (by decide) pd26 [(.ref x653), (.ref x655)] [] rfl rfl rfl 0 (Nat.le_of_eq rfl) (CW.pay (W := 0) A655 hEL (m_qn1 l Z a0 hw x653 t653 x655 t655 [e0, e1, e2] c0 zc O2 P5 h655 n0 A655.old hEL c662 G655 (lc s0 (lc s1 (lc s2 ln))) (Nat.le_of_ble_eq_true rfl) r0 (by simp [idxD, *])) (wd hw 29 rfl) (wd hw 28 rfl) (by decide) (by decide) (fun _ q => nomatch q)) (kc := 9) (ks := 150) (by decide) (by decide) all0 fun v663 vm663 T663 h663 L663 A663 K663 C663 q663 => ?_
        have Q664 : Keep h0 h663 [] := Q656.trans K663 all0
        obtain ⟨a663, b663, rfl, ag663, G663⟩ := q663
        have G663 : Str Z h663 a663 b663 [e0, e1, e2, (46 : Int32), c0] := G663
        show Wp pG e below _ T663 (mkF m 33 _ [(.ref a663)])
        refine f_astore A663 at_33 (pc' := 35) rfl rfl (L' := #[.val (.int lens), .val (.int nb), .val (.int rb), .val (.int (3 : Int32)), .val (.int (1 : Int32)), .val (.ref x653), .val (.ref x655), .val (.ref a663), .unset, .unset]) rfl ?_
        refine f_iload A663 at_35 (pc' := 37) rfl rfl ?_
        refine f_ifN A663 at_37 ((if0 _ _).trans (tlt (by decide : (0 : Int32) < (1 : Int32))).2.2.2) (pc' := 40) rfl ?_
        refine f_iloadN A663 at_40 (pc' := 41) rfl rfl ?_
        refine f_iconst A663 at_41 (pc' := 42) rfl 0 rfl ?_
        refine f_callS A663 at_42 (pc' := 45) rfl (wd hw 190 rfl) (wd hw 191 rfl) (wd hw 2 rfl) (wd hw 192 rfl) (by decide) pd16 [(.int rb), (.int (0 : Int32))] [] rfl rfl rfl 0 (Nat.le_of_eq rfl) (CN.pay (W := 0) A663 (m_ch l Z a0 hw rb (0 : Int32) c0 h663 n0 A663.old hc0) (wd hw 192 rfl) (wd hw 2 rfl) (by decide) (by decide)) (kc := 0) (ks := 0) (by decide) (by decide) all0 (fun _ => sf0) fun v665 T665 h665 L665 A665 K665 q665 => ?_
        obtain ⟨rfl, hh665⟩ := q665
        obtain rfl := hh665.symm
        show Wp pG e below _ T665 (mkF m 45 _ [(.int c0)])
        refine f_bipush A665 at_45 (pc' := 47) rfl 46 rfl ?_
        refine f_icN A665 at_47 (feq q0).1 (pc' := 50) rfl ?_
        refine f_iload A665 at_50 (pc' := 52) rfl rfl ?_
        refine f_iconst A665 at_52 (pc' := 53) rfl 1 rfl ?_
        refine f_icY A665 at_53 (flt (by decide : ¬ (1 : Int32) < (1 : Int32))).2.2.2 (pc' := 66) (by decide) (by decide) ?_
        refine f_iload A665 at_66 (pc' := 68) rfl rfl ?_
        refine f_iconst A665 at_68 (pc' := 69) rfl 2 rfl ?_
        refine f_icY A665 at_69 (flt (by decide : ¬ (2 : Int32) < (1 : Int32))).2.2.2 (pc' := 86) (by decide) (by decide) ?_
        refine f_iconst A665 at_86 (pc' := 87) rfl 0 rfl ?_
        refine f_istore A665 at_87 (pc' := 89) rfl (L' := #[.val (.int lens), .val (.int nb), .val (.int rb), .val (.int (3 : Int32)), .val (.int (1 : Int32)), .val (.ref x653), .val (.ref x655), .val (.ref a663), .val (.int (0 : Int32)), .unset]) rfl ?_
        refine f_iload A665 at_89 (pc' := 91) rfl rfl ?_
        refine f_ifY A665 at_91 ((if0 _ _).trans (teq (by decide : (0 : Int32) = (0 : Int32))).1) (pc' := 102) (by decide) (by decide) ?_
        refine f_iloadN A665 at_102 (pc' := 103) rfl rfl ?_
        refine f_iconst A665 at_103 (pc' := 104) rfl 1 rfl ?_
        refine f_iadd A665 at_104 (pc' := 105) rfl (4 : Int32) (by decide) ?_
        refine f_iload A665 at_105 (pc' := 107) rfl rfl ?_
        refine f_iadd A665 at_107 (pc' := 108) rfl (5 : Int32) (by decide) ?_
        refine f_istore A665 at_108 (pc' := 110) rfl (L' := #[.val (.int lens), .val (.int nb), .val (.int rb), .val (.int (3 : Int32)), .val (.int (1 : Int32)), .val (.ref x653), .val (.ref x655), .val (.ref a663), .val (.int (0 : Int32)), .val (.int (5 : Int32))]) rfl ?_
        refine f_aload A665 at_110 (pc' := 112) rfl rfl rfl ?_
        refine f_callV A665 (a := a663) at_112 (pc' := 115) rfl (wd hw 170 rfl) (wd hw 94 rfl) (nfS A665 (wd hw 96 rfl)) (wd hw 96 rfl) (wd hw 95 rfl) (by decide) G663.exa pd5 [] [] rfl rfl rfl 0 (Nat.le_of_eq rfl) (payLen (W := 0) A665 hw (wd hw 5 rfl) G663 O2 P5 (by decide) (by decide)) (kc := 0) (ks := 0) (by decide) (by decide) all0 (fun _ => sf0) fun v666 T666 h666 L666 A666 K666 q666 => ?_
        obtain ⟨rfl, hh666⟩ := q666
        obtain rfl := hh666.symm
        show Wp pG e below _ T666 (mkF m 115 _ [(.int (5 : Int32))])
        refine f_iload A666 at_115 (pc' := 117) rfl rfl ?_
        refine f_icY A666 at_117 (teq (by decide : (5 : Int32) = (5 : Int32))).1 (pc' := 122) (by decide) (by decide) ?_
        refine f_aload A666 at_122 (pc' := 124) rfl rfl rfl ?_
        refine f_iconst A666 at_124 (pc' := 125) rfl 0 rfl ?_
        refine f_iload A666 at_125 (pc' := 127) rfl rfl ?_
        refine f_iloadN A666 at_127 (pc' := 128) rfl rfl ?_
        refine f_iloadN A666 at_128 (pc' := 129) rfl rfl ?_
        refine f_iloadN A666 at_129 (pc' := 130) rfl rfl ?_
        refine f_callS A666 at_130 (pc' := 133) rfl (wd hw 171 rfl) (wd hw 172 rfl) (wd hw 2 rfl) (wd hw 173 rfl) (by decide) pd27 [(.ref a663), (.int (0 : Int32)), (.int (5 : Int32)), (.int (3 : Int32)), (.int nb), (.int rb)] [] rfl rfl rfl 0 (Nat.le_of_eq rfl) (CN.pay (W := 0) A666 (m_okN l Z a0 hw a663 (0 : Int32) (5 : Int32) (3 : Int32) nb rb b663 [e0, e1, e2, (46 : Int32), c0] 0 e0 zc O2 P5 fm O4 rG3 h663 n0 A666.old G663 (lat2 (lc s0 (lc s1 (lc s2 (lc (by decide) (lc r0 ln)))))) (Nat.le_of_ble_eq_true rfl) rfl rfl (by decide) (by decide) he0) (wd hw 173 rfl) (wd hw 2 rfl) (by decide) (by decide)) (kc := 0) (ks := 0) (by decide) (by decide) all0 (fun _ => sf0) fun v667 T667 h667 L667 A667 K667 q667 => ?_
        obtain ⟨rfl, hh667⟩ := q667
        obtain rfl := hh667.symm
        show Wp pG e below _ T667 (mkF m 133 _ [(.int (1 : Int32))])
        refine f_ifN A667 at_133 ((if0 _ _).trans (feq (by decide : ¬ (1 : Int32) = (0 : Int32))).1) (pc' := 136) rfl ?_
        refine f_aload A667 at_136 (pc' := 138) rfl rfl rfl ?_
        refine f_iconst A667 at_138 (pc' := 139) rfl 1 rfl ?_
        refine f_iload A667 at_139 (pc' := 141) rfl rfl ?_
        refine f_iloadN A667 at_141 (pc' := 142) rfl rfl ?_
        refine f_iloadN A667 at_142 (pc' := 143) rfl rfl ?_
        refine f_iloadN A667 at_143 (pc' := 144) rfl rfl ?_
        refine f_callS A667 at_144 (pc' := 147) rfl (wd hw 171 rfl) (wd hw 172 rfl) (wd hw 2 rfl) (wd hw 173 rfl) (by decide) pd27 [(.ref a663), (.int (1 : Int32)), (.int (5 : Int32)), (.int (3 : Int32)), (.int nb), (.int rb)] [] rfl rfl rfl 0 (Nat.le_of_eq rfl) (CN.pay (W := 0) A667 (m_okN l Z a0 hw a663 (1 : Int32) (5 : Int32) (3 : Int32) nb rb b663 [e0, e1, e2, (46 : Int32), c0] 1 e1 zc O2 P5 fm O4 rG3 h663 n0 A667.old G663 (lat2 (lc s0 (lc s1 (lc s2 (lc (by decide) (lc r0 ln)))))) (Nat.le_of_ble_eq_true rfl) rfl rfl (by decide) (by decide) he1) (wd hw 173 rfl) (wd hw 2 rfl) (by decide) (by decide)) (kc := 0) (ks := 0) (by decide) (by decide) all0 (fun _ => sf0) fun v668 T668 h668 L668 A668 K668 q668 => ?_
        obtain ⟨rfl, hh668⟩ := q668
        obtain rfl := hh668.symm
        show Wp pG e below _ T668 (mkF m 147 _ [(.int (1 : Int32))])
        refine f_ifN A668 at_147 ((if0 _ _).trans (feq (by decide : ¬ (1 : Int32) = (0 : Int32))).1) (pc' := 150) rfl ?_
        refine f_aload A668 at_150 (pc' := 152) rfl rfl rfl ?_
        refine f_iconst A668 at_152 (pc' := 153) rfl 2 rfl ?_
        refine f_iload A668 at_153 (pc' := 155) rfl rfl ?_
        refine f_iloadN A668 at_155 (pc' := 156) rfl rfl ?_
        refine f_iloadN A668 at_156 (pc' := 157) rfl rfl ?_
        refine f_iloadN A668 at_157 (pc' := 158) rfl rfl ?_
        refine f_callS A668 at_158 (pc' := 161) rfl (wd hw 171 rfl) (wd hw 172 rfl) (wd hw 2 rfl) (wd hw 173 rfl) (by decide) pd27 [(.ref a663), (.int (2 : Int32)), (.int (5 : Int32)), (.int (3 : Int32)), (.int nb), (.int rb)] [] rfl rfl rfl 0 (Nat.le_of_eq rfl) (CN.pay (W := 0) A668 (m_okN l Z a0 hw a663 (2 : Int32) (5 : Int32) (3 : Int32) nb rb b663 [e0, e1, e2, (46 : Int32), c0] 2 e2 zc O2 P5 fm O4 rG3 h663 n0 A668.old G663 (lat2 (lc s0 (lc s1 (lc s2 (lc (by decide) (lc r0 ln)))))) (Nat.le_of_ble_eq_true rfl) rfl rfl (by decide) (by decide) he2) (wd hw 173 rfl) (wd hw 2 rfl) (by decide) (by decide)) (kc := 0) (ks := 0) (by decide) (by decide) all0 (fun _ => sf0) fun v669 T669 h669 L669 A669 K669 q669 => ?_
        obtain ⟨rfl, hh669⟩ := q669
        obtain rfl := hh669.symm
        show Wp pG e below _ T669 (mkF m 161 _ [(.int (1 : Int32))])
        refine f_ifN A669 at_161 ((if0 _ _).trans (feq (by decide : ¬ (1 : Int32) = (0 : Int32))).1) (pc' := 164) rfl ?_
        refine f_aload A669 at_164 (pc' := 166) rfl rfl rfl ?_
        refine f_iconst A669 at_166 (pc' := 167) rfl 3 rfl ?_
        refine f_iload A669 at_167 (pc' := 169) rfl rfl ?_
        refine f_iloadN A669 at_169 (pc' := 170) rfl rfl ?_
        refine f_iloadN A669 at_170 (pc' := 171) rfl rfl ?_
        refine f_iloadN A669 at_171 (pc' := 172) rfl rfl ?_
        refine f_callS A669 at_172 (pc' := 175) rfl (wd hw 171 rfl) (wd hw 172 rfl) (wd hw 2 rfl) (wd hw 173 rfl) (by decide) pd27 [(.ref a663), (.int (3 : Int32)), (.int (5 : Int32)), (.int (3 : Int32)), (.int nb), (.int rb)] [] rfl rfl rfl 0 (Nat.le_of_eq rfl) (CN.pay (W := 0) A669 (m_okD l Z a0 hw a663 (3 : Int32) (5 : Int32) (3 : Int32) nb rb b663 [e0, e1, e2, (46 : Int32), c0] 3 (46 : Int32) zc O2 P5 fm O4 rG3 h663 n0 A669.old G663 (lat2 (lc s0 (lc s1 (lc s2 (lc (by decide) (lc r0 ln)))))) (Nat.le_of_ble_eq_true rfl) rfl rfl (by decide) rfl (by decide) rfl) (wd hw 173 rfl) (wd hw 2 rfl) (by decide) (by decide)) (kc := 0) (ks := 0) (by decide) (by decide) all0 (fun _ => sf0) fun v670 T670 h670 L670 A670 K670 q670 => ?_
        obtain ⟨rfl, hh670⟩ := q670
        obtain rfl := hh670.symm
        show Wp pG e below _ T670 (mkF m 175 _ [(.int (1 : Int32))])
        refine f_ifN A670 at_175 ((if0 _ _).trans (feq (by decide : ¬ (1 : Int32) = (0 : Int32))).1) (pc' := 178) rfl ?_
        refine f_aload A670 at_178 (pc' := 180) rfl rfl rfl ?_
        refine f_iconst A670 at_180 (pc' := 181) rfl 4 rfl ?_
        refine f_iload A670 at_181 (pc' := 183) rfl rfl ?_
        refine f_iloadN A670 at_183 (pc' := 184) rfl rfl ?_
        refine f_iloadN A670 at_184 (pc' := 185) rfl rfl ?_
        refine f_iloadN A670 at_185 (pc' := 186) rfl rfl ?_
        refine f_callS A670 at_186 (pc' := 189) rfl (wd hw 171 rfl) (wd hw 172 rfl) (wd hw 2 rfl) (wd hw 173 rfl) (by decide) pd27 [(.ref a663), (.int (4 : Int32)), (.int (5 : Int32)), (.int (3 : Int32)), (.int nb), (.int rb)] [] rfl rfl rfl 0 (Nat.le_of_eq rfl) (CN.pay (W := 0) A670 (m_okR l Z a0 hw a663 (4 : Int32) (5 : Int32) (3 : Int32) nb rb b663 [e0, e1, e2, (46 : Int32), c0] 4 c0 zc O2 P5 fm O4 rG3 h663 n0 A670.old G663 (lat2 (lc s0 (lc s1 (lc s2 (lc (by decide) (lc r0 ln)))))) (Nat.le_of_ble_eq_true rfl) rfl rfl (by decide) (by decide) (by decide) hc0) (wd hw 173 rfl) (wd hw 2 rfl) (by decide) (by decide)) (kc := 0) (ks := 0) (by decide) (by decide) all0 (fun _ => sf0) fun v671 T671 h671 L671 A671 K671 q671 => ?_
        obtain ⟨rfl, hh671⟩ := q671
        obtain rfl := hh671.symm
        show Wp pG e below _ T671 (mkF m 189 _ [(.int (1 : Int32))])
        refine f_ifN A671 at_189 ((if0 _ _).trans (feq (by decide : ¬ (1 : Int32) = (0 : Int32))).1) (pc' := 192) rfl ?_
        refine f_aload A671 at_192 (pc' := 194) rfl rfl rfl ?_
        refine f_iconst A671 at_194 (pc' := 195) rfl 5 rfl ?_
        refine f_iload A671 at_195 (pc' := 197) rfl rfl ?_
        refine f_iloadN A671 at_197 (pc' := 198) rfl rfl ?_
        refine f_iloadN A671 at_198 (pc' := 199) rfl rfl ?_
        refine f_iloadN A671 at_199 (pc' := 200) rfl rfl ?_
        refine f_callS A671 at_200 (pc' := 203) rfl (wd hw 171 rfl) (wd hw 172 rfl) (wd hw 2 rfl) (wd hw 173 rfl) (by decide) pd27 [(.ref a663), (.int (5 : Int32)), (.int (5 : Int32)), (.int (3 : Int32)), (.int nb), (.int rb)] [] rfl rfl rfl 0 (Nat.le_of_eq rfl) (CN.pay (W := 0) A671 (m_okO l Z a0 hw a663 (5 : Int32) (5 : Int32) (3 : Int32) nb rb h663 n0 A671.old (by decide)) (wd hw 173 rfl) (wd hw 2 rfl) (by decide) (by decide)) (kc := 0) (ks := 0) (by decide) (by decide) all0 (fun _ => sf0) fun v672 T672 h672 L672 A672 K672 q672 => ?_
        obtain ⟨rfl, hh672⟩ := q672
        obtain rfl := hh672.symm
        show Wp pG e below _ T672 (mkF m 203 _ [(.int (1 : Int32))])
        refine f_ifN A672 at_203 ((if0 _ _).trans (feq (by decide : ¬ (1 : Int32) = (0 : Int32))).1) (pc' := 206) rfl ?_
        refine f_aload A672 at_206 (pc' := 208) rfl rfl rfl ?_
        refine f_bipush A672 at_208 (pc' := 210) rfl 6 rfl ?_
        refine f_iload A672 at_210 (pc' := 212) rfl rfl ?_
        refine f_iloadN A672 at_212 (pc' := 213) rfl rfl ?_
        refine f_iloadN A672 at_213 (pc' := 214) rfl rfl ?_
        refine f_iloadN A672 at_214 (pc' := 215) rfl rfl ?_
        refine f_callS A672 at_215 (pc' := 218) rfl (wd hw 171 rfl) (wd hw 172 rfl) (wd hw 2 rfl) (wd hw 173 rfl) (by decide) pd27 [(.ref a663), (.int (6 : Int32)), (.int (5 : Int32)), (.int (3 : Int32)), (.int nb), (.int rb)] [] rfl rfl rfl 0 (Nat.le_of_eq rfl) (CN.pay (W := 0) A672 (m_okO l Z a0 hw a663 (6 : Int32) (5 : Int32) (3 : Int32) nb rb h663 n0 A672.old (by decide)) (wd hw 173 rfl) (wd hw 2 rfl) (by decide) (by decide)) (kc := 0) (ks := 0) (by decide) (by decide) all0 (fun _ => sf0) fun v673 T673 h673 L673 A673 K673 q673 => ?_
        obtain ⟨rfl, hh673⟩ := q673
        obtain rfl := hh673.symm
        show Wp pG e below _ T673 (mkF m 218 _ [(.int (1 : Int32))])
        refine f_ifN A673 at_218 ((if0 _ _).trans (feq (by decide : ¬ (1 : Int32) = (0 : Int32))).1) (pc' := 221) rfl ?_
        refine f_iconst A673 at_221 (pc' := 222) rfl 1 rfl ?_
        refine f_goto A673 at_222 (pc' := 226) (by decide) (by decide) ?_
        exact f_retBW A673 hEL hlk hret at_226 (by decide) (1 : Int32) (by decide) (by decide) (by decide) Q664 rfl
    · refine f_iloadN A0 at_0 (pc' := 1) rfl rfl ?_
      refine f_iconst A0 at_1 (pc' := 2) rfl 3 rfl ?_
      refine f_iand A0 at_2 (pc' := 3) rfl (3 : Int32) hm0 ?_
      refine f_istoreN A0 at_3 (pc' := 4) rfl (L' := #[.val (.int lens), .val (.int nb), .val (.int rb), .val (.int (3 : Int32)), .unset, .unset, .unset, .unset, .unset, .unset]) rfl ?_
      refine f_iloadN A0 at_4 (pc' := 5) rfl rfl ?_
      refine f_iconst A0 at_5 (pc' := 6) rfl 2 rfl ?_
      refine f_iushr A0 at_6 (pc' := 7) rfl ((lens.toUInt32 >>> ((2 : Int32) &&& 31).toUInt32).toInt32) rfl ?_
      refine f_iconst A0 at_7 (pc' := 8) rfl 3 rfl ?_
      refine f_iand A0 at_8 (pc' := 9) rfl (2 : Int32) hn1 ?_
      refine f_istore A0 at_9 (pc' := 11) rfl (L' := #[.val (.int lens), .val (.int nb), .val (.int rb), .val (.int (3 : Int32)), .val (.int (2 : Int32)), .unset, .unset, .unset, .unset, .unset]) rfl ?_
      refine f_iloadN A0 at_11 (pc' := 12) rfl rfl ?_
      refine f_iloadN A0 at_12 (pc' := 13) rfl rfl ?_
      refine f_callSW A0 at_13 (pc' := 16) rfl (wd hw 0 rfl) (wd hw 1 rfl) (wd hw 2 rfl) (wd hw 3 rfl) (by decide) pd25 [(.int (3 : Int32)), (.int nb)] [] rfl rfl rfl 0 (Nat.le_of_eq rfl) (CW.pay (W := 0) A0 hEL (m_str3 l Z a0 hw nb e0 e1 e2 zc O2 P5 h0 n0 A0.old hEL he0 s0 he1 s1 he2 s2) (wd hw 3 rfl) (wd hw 2 rfl) (by decide) (by decide) (fun _ q => nomatch q)) (kc := 4) (ks := 14) (by decide) (by decide) all0 fun v674 vm674 T674 h674 L674 A674 K674 C674 q674 => ?_
      have Q675 : Keep h0 h674 [] := K0.trans K674 all0
      obtain ⟨x674, t674, rfl, xg674, G674⟩ := q674
      show Wp pG e below _ T674 (mkF m 16 _ [(.ref x674)])
      refine f_astore A674 at_16 (pc' := 18) rfl rfl (L' := #[.val (.int lens), .val (.int nb), .val (.int rb), .val (.int (3 : Int32)), .val (.int (2 : Int32)), .val (.ref x674), .unset, .unset, .unset, .unset]) rfl ?_
      refine f_iload A674 at_18 (pc' := 20) rfl rfl ?_
      refine f_iloadN A674 at_20 (pc' := 21) rfl rfl ?_
      refine f_callSW A674 at_21 (pc' := 24) rfl (wd hw 0 rfl) (wd hw 1 rfl) (wd hw 2 rfl) (wd hw 3 rfl) (by decide) pd25 [(.int (2 : Int32)), (.int rb)] [] rfl rfl rfl 0 (Nat.le_of_eq rfl) (CW.pay (W := 0) A674 hEL (m_str2 l Z a0 hw rb c0 c1 c2 zc O2 P5 h674 n0 A674.old hEL hc0 r0 hc1 r1 hc2 r2) (wd hw 3 rfl) (wd hw 2 rfl) (by decide) (by decide) (fun _ q => nomatch q)) (kc := 4) (ks := 14) (by decide) (by decide) all0 fun v676 vm676 T676 h676 L676 A676 K676 C676 q676 => ?_
      have Q677 : Keep h0 h676 [] := Q675.trans K676 all0
      obtain ⟨x676, t676, rfl, xg676, G676⟩ := q676
      show Wp pG e below _ T676 (mkF m 24 _ [(.ref x676)])
      refine f_astore A676 at_24 (pc' := 26) rfl rfl (L' := #[.val (.int lens), .val (.int nb), .val (.int rb), .val (.int (3 : Int32)), .val (.int (2 : Int32)), .val (.ref x674), .val (.ref x676), .unset, .unset, .unset]) rfl ?_
      by_cases q0 : c0 = 46
      · refine f_aload A676 at_26 (pc' := 28) rfl rfl rfl ?_
        refine f_aload A676 at_28 (pc' := 30) rfl rfl rfl ?_
        refine f_callSW A676 at_30 (pc' := 33) rfl (wd hw 26 rfl) (wd hw 27 rfl) (wd hw 28 rfl) (wd hw 29 rfl) (by decide) pd26 [(.ref x674), (.ref x676)] [] rfl rfl rfl 0 (Nat.le_of_eq rfl) (CW.pay (W := 0) A676 hEL (m_qd2 l Z a0 hw x674 x676 t676 c0 c1 zc O2 P5 h676 n0 A676.old hEL G676 r0 r1 (by simp [idxD, *])) (wd hw 29 rfl) (wd hw 28 rfl) (by decide) (by decide) (fun _ q => nomatch q)) (kc := 2) (ks := 8) (by decide) (by decide) all0 fun v678 vm678 T678 h678 L678 A678 K678 C678 q678 => ?_
        have Q679 : Keep h0 h678 [] := Q677.trans K678 all0
        obtain rfl := q678
        show Wp pG e below _ T678 (mkF m 33 _ [(.ref x676)])
        refine f_astore A678 at_33 (pc' := 35) rfl rfl (L' := #[.val (.int lens), .val (.int nb), .val (.int rb), .val (.int (3 : Int32)), .val (.int (2 : Int32)), .val (.ref x674), .val (.ref x676), .val (.ref x676), .unset, .unset]) rfl ?_
        refine f_iload A678 at_35 (pc' := 37) rfl rfl ?_
        refine f_ifN A678 at_37 ((if0 _ _).trans (tlt (by decide : (0 : Int32) < (2 : Int32))).2.2.2) (pc' := 40) rfl ?_
        refine f_iloadN A678 at_40 (pc' := 41) rfl rfl ?_
        refine f_iconst A678 at_41 (pc' := 42) rfl 0 rfl ?_
        refine f_callS A678 at_42 (pc' := 45) rfl (wd hw 190 rfl) (wd hw 191 rfl) (wd hw 2 rfl) (wd hw 192 rfl) (by decide) pd16 [(.int rb), (.int (0 : Int32))] [] rfl rfl rfl 0 (Nat.le_of_eq rfl) (CN.pay (W := 0) A678 (m_ch l Z a0 hw rb (0 : Int32) c0 h678 n0 A678.old hc0) (wd hw 192 rfl) (wd hw 2 rfl) (by decide) (by decide)) (kc := 0) (ks := 0) (by decide) (by decide) all0 (fun _ => sf0) fun v680 T680 h680 L680 A680 K680 q680 => ?_
        obtain ⟨rfl, hh680⟩ := q680
        obtain rfl := hh680.symm
        show Wp pG e below _ T680 (mkF m 45 _ [(.int c0)])
        refine f_bipush A680 at_45 (pc' := 47) rfl 46 rfl ?_
        refine f_icY A680 at_47 (teq q0).1 (pc' := 82) (by decide) (by decide) ?_
        refine f_iconst A680 at_82 (pc' := 83) rfl 1 rfl ?_
        refine f_goto A680 at_83 (pc' := 87) (by decide) (by decide) ?_
        refine f_istore A680 at_87 (pc' := 89) rfl (L' := #[.val (.int lens), .val (.int nb), .val (.int rb), .val (.int (3 : Int32)), .val (.int (2 : Int32)), .val (.ref x674), .val (.ref x676), .val (.ref x676), .val (.int (1 : Int32)), .unset]) rfl ?_
        refine f_iload A680 at_89 (pc' := 91) rfl rfl ?_
        refine f_ifN A680 at_91 ((if0 _ _).trans (feq (by decide : ¬ (1 : Int32) = (0 : Int32))).1) (pc' := 94) rfl ?_
        refine f_aload A680 at_94 (pc' := 96) rfl rfl rfl ?_
        refine f_aload A680 at_96 (pc' := 98) rfl rfl rfl ?_
        have c682 := (G676.exa.keep K678)
        refine f_callV A680 (a := x676) at_98 (pc' := 101) rfl (wd hw 206 rfl) (wd hw 207 rfl) (nfS A680 (wd hw 209 rfl)) (wd hw 209 rfl) (wd hw 208 rfl) (by decide) c682 pd28 [(.ref x676)] [] rfl rfl rfl 0 (Nat.le_of_eq rfl) (CN.pay (W := 0) A680 (m_eqself l Z a0 hw x676 h678 n0 A680.old) (wd hw 210 rfl) (wd hw 6 rfl) (by decide) (by decide)) (kc := 0) (ks := 0) (by decide) (by decide) all0 (fun _ => sf0) fun v681 T681 h681 L681 A681 K681 q681 => ?_
        obtain ⟨rfl, hh681⟩ := q681
        obtain rfl := hh681.symm
        show Wp pG e below _ T681 (mkF m 101 _ [(.int (1 : Int32))])
        exact f_retBW A681 hEL hlk hret at_101 (by decide) (1 : Int32) (by decide) (by decide) (by decide) Q679 rfl
      · by_cases q1 : c1 = 46
        · refine f_aload A676 at_26 (pc' := 28) rfl rfl rfl ?_
          refine f_aload A676 at_28 (pc' := 30) rfl rfl rfl ?_
          refine f_callSW A676 at_30 (pc' := 33) rfl (wd hw 26 rfl) (wd hw 27 rfl) (wd hw 28 rfl) (wd hw 29 rfl) (by decide) pd26 [(.ref x674), (.ref x676)] [] rfl rfl rfl 0 (Nat.le_of_eq rfl) (CW.pay (W := 0) A676 hEL (m_qd2 l Z a0 hw x674 x676 t676 c0 c1 zc O2 P5 h676 n0 A676.old hEL G676 r0 r1 (by simp [idxD, *])) (wd hw 29 rfl) (wd hw 28 rfl) (by decide) (by decide) (fun _ q => nomatch q)) (kc := 2) (ks := 8) (by decide) (by decide) all0 fun v683 vm683 T683 h683 L683 A683 K683 C683 q683 => ?_
          have Q684 : Keep h0 h683 [] := Q677.trans K683 all0
          obtain rfl := q683
          show Wp pG e below _ T683 (mkF m 33 _ [(.ref x676)])
          refine f_astore A683 at_33 (pc' := 35) rfl rfl (L' := #[.val (.int lens), .val (.int nb), .val (.int rb), .val (.int (3 : Int32)), .val (.int (2 : Int32)), .val (.ref x674), .val (.ref x676), .val (.ref x676), .unset, .unset]) rfl ?_
          refine f_iload A683 at_35 (pc' := 37) rfl rfl ?_
          refine f_ifN A683 at_37 ((if0 _ _).trans (tlt (by decide : (0 : Int32) < (2 : Int32))).2.2.2) (pc' := 40) rfl ?_
          refine f_iloadN A683 at_40 (pc' := 41) rfl rfl ?_
          refine f_iconst A683 at_41 (pc' := 42) rfl 0 rfl ?_
          refine f_callS A683 at_42 (pc' := 45) rfl (wd hw 190 rfl) (wd hw 191 rfl) (wd hw 2 rfl) (wd hw 192 rfl) (by decide) pd16 [(.int rb), (.int (0 : Int32))] [] rfl rfl rfl 0 (Nat.le_of_eq rfl) (CN.pay (W := 0) A683 (m_ch l Z a0 hw rb (0 : Int32) c0 h683 n0 A683.old hc0) (wd hw 192 rfl) (wd hw 2 rfl) (by decide) (by decide)) (kc := 0) (ks := 0) (by decide) (by decide) all0 (fun _ => sf0) fun v685 T685 h685 L685 A685 K685 q685 => ?_
          obtain ⟨rfl, hh685⟩ := q685
          obtain rfl := hh685.symm
          show Wp pG e below _ T685 (mkF m 45 _ [(.int c0)])
          refine f_bipush A685 at_45 (pc' := 47) rfl 46 rfl ?_
          refine f_icN A685 at_47 (feq q0).1 (pc' := 50) rfl ?_
          refine f_iload A685 at_50 (pc' := 52) rfl rfl ?_
          refine f_iconst A685 at_52 (pc' := 53) rfl 1 rfl ?_
          refine f_icN A685 at_53 (tlt (by decide : (1 : Int32) < (2 : Int32))).2.2.2 (pc' := 56) rfl ?_
          refine f_iloadN A685 at_56 (pc' := 57) rfl rfl ?_
          refine f_iconst A685 at_57 (pc' := 58) rfl 1 rfl ?_
          refine f_callS A685 at_58 (pc' := 61) rfl (wd hw 190 rfl) (wd hw 191 rfl) (wd hw 2 rfl) (wd hw 192 rfl) (by decide) pd16 [(.int rb), (.int (1 : Int32))] [] rfl rfl rfl 0 (Nat.le_of_eq rfl) (CN.pay (W := 0) A685 (m_ch l Z a0 hw rb (1 : Int32) c1 h683 n0 A685.old hc1) (wd hw 192 rfl) (wd hw 2 rfl) (by decide) (by decide)) (kc := 0) (ks := 0) (by decide) (by decide) all0 (fun _ => sf0) fun v686 T686 h686 L686 A686 K686 q686 => ?_
          obtain ⟨rfl, hh686⟩ := q686
          obtain rfl := hh686.symm
          show Wp pG e below _ T686 (mkF m 61 _ [(.int c1)])
          refine f_bipush A686 at_61 (pc' := 63) rfl 46 rfl ?_
          refine f_icY A686 at_63 (teq q1).1 (pc' := 82) (by decide) (by decide) ?_
          refine f_iconst A686 at_82 (pc' := 83) rfl 1 rfl ?_
          refine f_goto A686 at_83 (pc' := 87) (by decide) (by decide) ?_
          refine f_istore A686 at_87 (pc' := 89) rfl (L' := #[.val (.int lens), .val (.int nb), .val (.int rb), .val (.int (3 : Int32)), .val (.int (2 : Int32)), .val (.ref x674), .val (.ref x676), .val (.ref x676), .val (.int (1 : Int32)), .unset]) rfl ?_
          refine f_iload A686 at_89 (pc' := 91) rfl rfl ?_
          refine f_ifN A686 at_91 ((if0 _ _).trans (feq (by decide : ¬ (1 : Int32) = (0 : Int32))).1) (pc' := 94) rfl ?_
          refine f_aload A686 at_94 (pc' := 96) rfl rfl rfl ?_
          refine f_aload A686 at_96 (pc' := 98) rfl rfl rfl ?_
          have c688 := (G676.exa.keep K683)
          refine f_callV A686 (a := x676) at_98 (pc' := 101) rfl (wd hw 206 rfl) (wd hw 207 rfl) (nfS A686 (wd hw 209 rfl)) (wd hw 209 rfl) (wd hw 208 rfl) (by decide) c688 pd28 [(.ref x676)] [] rfl rfl rfl 0 (Nat.le_of_eq rfl) (CN.pay (W := 0) A686 (m_eqself l Z a0 hw x676 h683 n0 A686.old) (wd hw 210 rfl) (wd hw 6 rfl) (by decide) (by decide)) (kc := 0) (ks := 0) (by decide) (by decide) all0 (fun _ => sf0) fun v687 T687 h687 L687 A687 K687 q687 => ?_
          obtain ⟨rfl, hh687⟩ := q687
          obtain rfl := hh687.symm
          show Wp pG e below _ T687 (mkF m 101 _ [(.int (1 : Int32))])
          exact f_retBW A687 hEL hlk hret at_101 (by decide) (1 : Int32) (by decide) (by decide) (by decide) Q684 rfl
        · refine f_aload A676 at_26 (pc' := 28) rfl rfl rfl ?_
          refine f_aload A676 at_28 (pc' := 30) rfl rfl rfl ?_
          have c689 := (G674.keep K676 nin0 nin0)
          refine f_callSW A676 at_30 (pc' := 33) rfl (wd hw 26 rfl) (wd hw 27 rfl) (wd hw 28 rfl) (wd hw 29 rfl) (by decide) pd26 [(.ref x674), (.ref x676)] [] rfl rfl rfl 0 (Nat.le_of_eq rfl) (CW.pay (W := 0) A676 hEL (m_qn2 l Z a0 hw x674 t674 x676 t676 [e0, e1, e2] c0 c1 zc O2 P5 h676 n0 A676.old hEL c689 G676 (lc s0 (lc s1 (lc s2 ln))) (Nat.le_of_ble_eq_true rfl) r0 r1 (by simp [idxD, *])) (wd hw 29 rfl) (wd hw 28 rfl) (by decide) (by decide) (fun _ q => nomatch q)) (kc := 9) (ks := 150) (by decide) (by decide) all0 fun v690 vm690 T690 h690 L690 A690 K690 C690 q690 => ?_
          have Q691 : Keep h0 h690 [] := Q677.trans K690 all0
          obtain ⟨a690, b690, rfl, ag690, G690⟩ := q690
          have G690 : Str Z h690 a690 b690 [e0, e1, e2, (46 : Int32), c0, c1] := G690
          show Wp pG e below _ T690 (mkF m 33 _ [(.ref a690)])
          refine f_astore A690 at_33 (pc' := 35) rfl rfl (L' := #[.val (.int lens), .val (.int nb), .val (.int rb), .val (.int (3 : Int32)), .val (.int (2 : Int32)), .val (.ref x674), .val (.ref x676), .val (.ref a690), .unset, .unset]) rfl ?_
          refine f_iload A690 at_35 (pc' := 37) rfl rfl ?_
          refine f_ifN A690 at_37 ((if0 _ _).trans (tlt (by decide : (0 : Int32) < (2 : Int32))).2.2.2) (pc' := 40) rfl ?_
          refine f_iloadN A690 at_40 (pc' := 41) rfl rfl ?_
          refine f_iconst A690 at_41 (pc' := 42) rfl 0 rfl ?_
          refine f_callS A690 at_42 (pc' := 45) rfl (wd hw 190 rfl) (wd hw 191 rfl) (wd hw 2 rfl) (wd hw 192 rfl) (by decide) pd16 [(.int rb), (.int (0 : Int32))] [] rfl rfl rfl 0 (Nat.le_of_eq rfl) (CN.pay (W := 0) A690 (m_ch l Z a0 hw rb (0 : Int32) c0 h690 n0 A690.old hc0) (wd hw 192 rfl) (wd hw 2 rfl) (by decide) (by decide)) (kc := 0) (ks := 0) (by decide) (by decide) all0 (fun _ => sf0) fun v692 T692 h692 L692 A692 K692 q692 => ?_
          obtain ⟨rfl, hh692⟩ := q692
          obtain rfl := hh692.symm
          show Wp pG e below _ T692 (mkF m 45 _ [(.int c0)])
          refine f_bipush A692 at_45 (pc' := 47) rfl 46 rfl ?_
          refine f_icN A692 at_47 (feq q0).1 (pc' := 50) rfl ?_
          refine f_iload A692 at_50 (pc' := 52) rfl rfl ?_
          refine f_iconst A692 at_52 (pc' := 53) rfl 1 rfl ?_
          refine f_icN A692 at_53 (tlt (by decide : (1 : Int32) < (2 : Int32))).2.2.2 (pc' := 56) rfl ?_
          refine f_iloadN A692 at_56 (pc' := 57) rfl rfl ?_
          refine f_iconst A692 at_57 (pc' := 58) rfl 1 rfl ?_
          refine f_callS A692 at_58 (pc' := 61) rfl (wd hw 190 rfl) (wd hw 191 rfl) (wd hw 2 rfl) (wd hw 192 rfl) (by decide) pd16 [(.int rb), (.int (1 : Int32))] [] rfl rfl rfl 0 (Nat.le_of_eq rfl) (CN.pay (W := 0) A692 (m_ch l Z a0 hw rb (1 : Int32) c1 h690 n0 A692.old hc1) (wd hw 192 rfl) (wd hw 2 rfl) (by decide) (by decide)) (kc := 0) (ks := 0) (by decide) (by decide) all0 (fun _ => sf0) fun v693 T693 h693 L693 A693 K693 q693 => ?_
          obtain ⟨rfl, hh693⟩ := q693
          obtain rfl := hh693.symm
          show Wp pG e below _ T693 (mkF m 61 _ [(.int c1)])
          refine f_bipush A693 at_61 (pc' := 63) rfl 46 rfl ?_
          refine f_icN A693 at_63 (feq q1).1 (pc' := 66) rfl ?_
          refine f_iload A693 at_66 (pc' := 68) rfl rfl ?_
          refine f_iconst A693 at_68 (pc' := 69) rfl 2 rfl ?_
          refine f_icY A693 at_69 (flt (by decide : ¬ (2 : Int32) < (2 : Int32))).2.2.2 (pc' := 86) (by decide) (by decide) ?_
          refine f_iconst A693 at_86 (pc' := 87) rfl 0 rfl ?_
          refine f_istore A693 at_87 (pc' := 89) rfl (L' := #[.val (.int lens), .val (.int nb), .val (.int rb), .val (.int (3 : Int32)), .val (.int (2 : Int32)), .val (.ref x674), .val (.ref x676), .val (.ref a690), .val (.int (0 : Int32)), .unset]) rfl ?_
          refine f_iload A693 at_89 (pc' := 91) rfl rfl ?_
          refine f_ifY A693 at_91 ((if0 _ _).trans (teq (by decide : (0 : Int32) = (0 : Int32))).1) (pc' := 102) (by decide) (by decide) ?_
          refine f_iloadN A693 at_102 (pc' := 103) rfl rfl ?_
          refine f_iconst A693 at_103 (pc' := 104) rfl 1 rfl ?_
          refine f_iadd A693 at_104 (pc' := 105) rfl (4 : Int32) (by decide) ?_
          refine f_iload A693 at_105 (pc' := 107) rfl rfl ?_
          refine f_iadd A693 at_107 (pc' := 108) rfl (6 : Int32) (by decide) ?_
          refine f_istore A693 at_108 (pc' := 110) rfl (L' := #[.val (.int lens), .val (.int nb), .val (.int rb), .val (.int (3 : Int32)), .val (.int (2 : Int32)), .val (.ref x674), .val (.ref x676), .val (.ref a690), .val (.int (0 : Int32)), .val (.int (6 : Int32))]) rfl ?_
          refine f_aload A693 at_110 (pc' := 112) rfl rfl rfl ?_
          refine f_callV A693 (a := a690) at_112 (pc' := 115) rfl (wd hw 170 rfl) (wd hw 94 rfl) (nfS A693 (wd hw 96 rfl)) (wd hw 96 rfl) (wd hw 95 rfl) (by decide) G690.exa pd5 [] [] rfl rfl rfl 0 (Nat.le_of_eq rfl) (payLen (W := 0) A693 hw (wd hw 5 rfl) G690 O2 P5 (by decide) (by decide)) (kc := 0) (ks := 0) (by decide) (by decide) all0 (fun _ => sf0) fun v694 T694 h694 L694 A694 K694 q694 => ?_
          obtain ⟨rfl, hh694⟩ := q694
          obtain rfl := hh694.symm
          show Wp pG e below _ T694 (mkF m 115 _ [(.int (6 : Int32))])
          refine f_iload A694 at_115 (pc' := 117) rfl rfl ?_
          refine f_icY A694 at_117 (teq (by decide : (6 : Int32) = (6 : Int32))).1 (pc' := 122) (by decide) (by decide) ?_
          refine f_aload A694 at_122 (pc' := 124) rfl rfl rfl ?_
          refine f_iconst A694 at_124 (pc' := 125) rfl 0 rfl ?_
          refine f_iload A694 at_125 (pc' := 127) rfl rfl ?_
          refine f_iloadN A694 at_127 (pc' := 128) rfl rfl ?_
          refine f_iloadN A694 at_128 (pc' := 129) rfl rfl ?_
          refine f_iloadN A694 at_129 (pc' := 130) rfl rfl ?_
          refine f_callS A694 at_130 (pc' := 133) rfl (wd hw 171 rfl) (wd hw 172 rfl) (wd hw 2 rfl) (wd hw 173 rfl) (by decide) pd27 [(.ref a690), (.int (0 : Int32)), (.int (6 : Int32)), (.int (3 : Int32)), (.int nb), (.int rb)] [] rfl rfl rfl 0 (Nat.le_of_eq rfl) (CN.pay (W := 0) A694 (m_okN l Z a0 hw a690 (0 : Int32) (6 : Int32) (3 : Int32) nb rb b690 [e0, e1, e2, (46 : Int32), c0, c1] 0 e0 zc O2 P5 fm O4 rG3 h690 n0 A694.old G690 (lat2 (lc s0 (lc s1 (lc s2 (lc (by decide) (lc r0 (lc r1 ln))))))) (Nat.le_of_ble_eq_true rfl) rfl rfl (by decide) (by decide) he0) (wd hw 173 rfl) (wd hw 2 rfl) (by decide) (by decide)) (kc := 0) (ks := 0) (by decide) (by decide) all0 (fun _ => sf0) fun v695 T695 h695 L695 A695 K695 q695 => ?_
          obtain ⟨rfl, hh695⟩ := q695
          obtain rfl := hh695.symm
          show Wp pG e below _ T695 (mkF m 133 _ [(.int (1 : Int32))])
          refine f_ifN A695 at_133 ((if0 _ _).trans (feq (by decide : ¬ (1 : Int32) = (0 : Int32))).1) (pc' := 136) rfl ?_
          refine f_aload A695 at_136 (pc' := 138) rfl rfl rfl ?_
          refine f_iconst A695 at_138 (pc' := 139) rfl 1 rfl ?_
          refine f_iload A695 at_139 (pc' := 141) rfl rfl ?_
          refine f_iloadN A695 at_141 (pc' := 142) rfl rfl ?_
          refine f_iloadN A695 at_142 (pc' := 143) rfl rfl ?_
          refine f_iloadN A695 at_143 (pc' := 144) rfl rfl ?_
          refine f_callS A695 at_144 (pc' := 147) rfl (wd hw 171 rfl) (wd hw 172 rfl) (wd hw 2 rfl) (wd hw 173 rfl) (by decide) pd27 [(.ref a690), (.int (1 : Int32)), (.int (6 : Int32)), (.int (3 : Int32)), (.int nb), (.int rb)] [] rfl rfl rfl 0 (Nat.le_of_eq rfl) (CN.pay (W := 0) A695 (m_okN l Z a0 hw a690 (1 : Int32) (6 : Int32) (3 : Int32) nb rb b690 [e0, e1, e2, (46 : Int32), c0, c1] 1 e1 zc O2 P5 fm O4 rG3 h690 n0 A695.old G690 (lat2 (lc s0 (lc s1 (lc s2 (lc (by decide) (lc r0 (lc r1 ln))))))) (Nat.le_of_ble_eq_true rfl) rfl rfl (by decide) (by decide) he1) (wd hw 173 rfl) (wd hw 2 rfl) (by decide) (by decide)) (kc := 0) (ks := 0) (by decide) (by decide) all0 (fun _ => sf0) fun v696 T696 h696 L696 A696 K696 q696 => ?_
          obtain ⟨rfl, hh696⟩ := q696
          obtain rfl := hh696.symm
          show Wp pG e below _ T696 (mkF m 147 _ [(.int (1 : Int32))])
          refine f_ifN A696 at_147 ((if0 _ _).trans (feq (by decide : ¬ (1 : Int32) = (0 : Int32))).1) (pc' := 150) rfl ?_
          refine f_aload A696 at_150 (pc' := 152) rfl rfl rfl ?_
          refine f_iconst A696 at_152 (pc' := 153) rfl 2 rfl ?_
          refine f_iload A696 at_153 (pc' := 155) rfl rfl ?_
          refine f_iloadN A696 at_155 (pc' := 156) rfl rfl ?_
          refine f_iloadN A696 at_156 (pc' := 157) rfl rfl ?_
          refine f_iloadN A696 at_157 (pc' := 158) rfl rfl ?_
          refine f_callS A696 at_158 (pc' := 161) rfl (wd hw 171 rfl) (wd hw 172 rfl) (wd hw 2 rfl) (wd hw 173 rfl) (by decide) pd27 [(.ref a690), (.int (2 : Int32)), (.int (6 : Int32)), (.int (3 : Int32)), (.int nb), (.int rb)] [] rfl rfl rfl 0 (Nat.le_of_eq rfl) (CN.pay (W := 0) A696 (m_okN l Z a0 hw a690 (2 : Int32) (6 : Int32) (3 : Int32) nb rb b690 [e0, e1, e2, (46 : Int32), c0, c1] 2 e2 zc O2 P5 fm O4 rG3 h690 n0 A696.old G690 (lat2 (lc s0 (lc s1 (lc s2 (lc (by decide) (lc r0 (lc r1 ln))))))) (Nat.le_of_ble_eq_true rfl) rfl rfl (by decide) (by decide) he2) (wd hw 173 rfl) (wd hw 2 rfl) (by decide) (by decide)) (kc := 0) (ks := 0) (by decide) (by decide) all0 (fun _ => sf0) fun v697 T697 h697 L697 A697 K697 q697 => ?_
          obtain ⟨rfl, hh697⟩ := q697
          obtain rfl := hh697.symm
          show Wp pG e below _ T697 (mkF m 161 _ [(.int (1 : Int32))])
          refine f_ifN A697 at_161 ((if0 _ _).trans (feq (by decide : ¬ (1 : Int32) = (0 : Int32))).1) (pc' := 164) rfl ?_
          refine f_aload A697 at_164 (pc' := 166) rfl rfl rfl ?_
          refine f_iconst A697 at_166 (pc' := 167) rfl 3 rfl ?_
          refine f_iload A697 at_167 (pc' := 169) rfl rfl ?_
          refine f_iloadN A697 at_169 (pc' := 170) rfl rfl ?_
          refine f_iloadN A697 at_170 (pc' := 171) rfl rfl ?_
          refine f_iloadN A697 at_171 (pc' := 172) rfl rfl ?_
          refine f_callS A697 at_172 (pc' := 175) rfl (wd hw 171 rfl) (wd hw 172 rfl) (wd hw 2 rfl) (wd hw 173 rfl) (by decide) pd27 [(.ref a690), (.int (3 : Int32)), (.int (6 : Int32)), (.int (3 : Int32)), (.int nb), (.int rb)] [] rfl rfl rfl 0 (Nat.le_of_eq rfl) (CN.pay (W := 0) A697 (m_okD l Z a0 hw a690 (3 : Int32) (6 : Int32) (3 : Int32) nb rb b690 [e0, e1, e2, (46 : Int32), c0, c1] 3 (46 : Int32) zc O2 P5 fm O4 rG3 h690 n0 A697.old G690 (lat2 (lc s0 (lc s1 (lc s2 (lc (by decide) (lc r0 (lc r1 ln))))))) (Nat.le_of_ble_eq_true rfl) rfl rfl (by decide) rfl (by decide) rfl) (wd hw 173 rfl) (wd hw 2 rfl) (by decide) (by decide)) (kc := 0) (ks := 0) (by decide) (by decide) all0 (fun _ => sf0) fun v698 T698 h698 L698 A698 K698 q698 => ?_
          obtain ⟨rfl, hh698⟩ := q698
          obtain rfl := hh698.symm
          show Wp pG e below _ T698 (mkF m 175 _ [(.int (1 : Int32))])
          refine f_ifN A698 at_175 ((if0 _ _).trans (feq (by decide : ¬ (1 : Int32) = (0 : Int32))).1) (pc' := 178) rfl ?_
          refine f_aload A698 at_178 (pc' := 180) rfl rfl rfl ?_
          refine f_iconst A698 at_180 (pc' := 181) rfl 4 rfl ?_
          refine f_iload A698 at_181 (pc' := 183) rfl rfl ?_
          refine f_iloadN A698 at_183 (pc' := 184) rfl rfl ?_
          refine f_iloadN A698 at_184 (pc' := 185) rfl rfl ?_
          refine f_iloadN A698 at_185 (pc' := 186) rfl rfl ?_
          refine f_callS A698 at_186 (pc' := 189) rfl (wd hw 171 rfl) (wd hw 172 rfl) (wd hw 2 rfl) (wd hw 173 rfl) (by decide) pd27 [(.ref a690), (.int (4 : Int32)), (.int (6 : Int32)), (.int (3 : Int32)), (.int nb), (.int rb)] [] rfl rfl rfl 0 (Nat.le_of_eq rfl) (CN.pay (W := 0) A698 (m_okR l Z a0 hw a690 (4 : Int32) (6 : Int32) (3 : Int32) nb rb b690 [e0, e1, e2, (46 : Int32), c0, c1] 4 c0 zc O2 P5 fm O4 rG3 h690 n0 A698.old G690 (lat2 (lc s0 (lc s1 (lc s2 (lc (by decide) (lc r0 (lc r1 ln))))))) (Nat.le_of_ble_eq_true rfl) rfl rfl (by decide) (by decide) (by decide) hc0) (wd hw 173 rfl) (wd hw 2 rfl) (by decide) (by decide)) (kc := 0) (ks := 0) (by decide) (by decide) all0 (fun _ => sf0) fun v699 T699 h699 L699 A699 K699 q699 => ?_
          obtain ⟨rfl, hh699⟩ := q699
          obtain rfl := hh699.symm
          show Wp pG e below _ T699 (mkF m 189 _ [(.int (1 : Int32))])
          refine f_ifN A699 at_189 ((if0 _ _).trans (feq (by decide : ¬ (1 : Int32) = (0 : Int32))).1) (pc' := 192) rfl ?_
          refine f_aload A699 at_192 (pc' := 194) rfl rfl rfl ?_
          refine f_iconst A699 at_194 (pc' := 195) rfl 5 rfl ?_
          refine f_iload A699 at_195 (pc' := 197) rfl rfl ?_
          refine f_iloadN A699 at_197 (pc' := 198) rfl rfl ?_
          refine f_iloadN A699 at_198 (pc' := 199) rfl rfl ?_
          refine f_iloadN A699 at_199 (pc' := 200) rfl rfl ?_
          refine f_callS A699 at_200 (pc' := 203) rfl (wd hw 171 rfl) (wd hw 172 rfl) (wd hw 2 rfl) (wd hw 173 rfl) (by decide) pd27 [(.ref a690), (.int (5 : Int32)), (.int (6 : Int32)), (.int (3 : Int32)), (.int nb), (.int rb)] [] rfl rfl rfl 0 (Nat.le_of_eq rfl) (CN.pay (W := 0) A699 (m_okR l Z a0 hw a690 (5 : Int32) (6 : Int32) (3 : Int32) nb rb b690 [e0, e1, e2, (46 : Int32), c0, c1] 5 c1 zc O2 P5 fm O4 rG3 h690 n0 A699.old G690 (lat2 (lc s0 (lc s1 (lc s2 (lc (by decide) (lc r0 (lc r1 ln))))))) (Nat.le_of_ble_eq_true rfl) rfl rfl (by decide) (by decide) (by decide) hc1) (wd hw 173 rfl) (wd hw 2 rfl) (by decide) (by decide)) (kc := 0) (ks := 0) (by decide) (by decide) all0 (fun _ => sf0) fun v700 T700 h700 L700 A700 K700 q700 => ?_
          obtain ⟨rfl, hh700⟩ := q700
          obtain rfl := hh700.symm
          show Wp pG e below _ T700 (mkF m 203 _ [(.int (1 : Int32))])
          refine f_ifN A700 at_203 ((if0 _ _).trans (feq (by decide : ¬ (1 : Int32) = (0 : Int32))).1) (pc' := 206) rfl ?_
          refine f_aload A700 at_206 (pc' := 208) rfl rfl rfl ?_
          refine f_bipush A700 at_208 (pc' := 210) rfl 6 rfl ?_
          refine f_iload A700 at_210 (pc' := 212) rfl rfl ?_
          refine f_iloadN A700 at_212 (pc' := 213) rfl rfl ?_
          refine f_iloadN A700 at_213 (pc' := 214) rfl rfl ?_
          refine f_iloadN A700 at_214 (pc' := 215) rfl rfl ?_
          refine f_callS A700 at_215 (pc' := 218) rfl (wd hw 171 rfl) (wd hw 172 rfl) (wd hw 2 rfl) (wd hw 173 rfl) (by decide) pd27 [(.ref a690), (.int (6 : Int32)), (.int (6 : Int32)), (.int (3 : Int32)), (.int nb), (.int rb)] [] rfl rfl rfl 0 (Nat.le_of_eq rfl) (CN.pay (W := 0) A700 (m_okO l Z a0 hw a690 (6 : Int32) (6 : Int32) (3 : Int32) nb rb h690 n0 A700.old (by decide)) (wd hw 173 rfl) (wd hw 2 rfl) (by decide) (by decide)) (kc := 0) (ks := 0) (by decide) (by decide) all0 (fun _ => sf0) fun v701 T701 h701 L701 A701 K701 q701 => ?_
          obtain ⟨rfl, hh701⟩ := q701
          obtain rfl := hh701.symm
          show Wp pG e below _ T701 (mkF m 218 _ [(.int (1 : Int32))])
          refine f_ifN A701 at_218 ((if0 _ _).trans (feq (by decide : ¬ (1 : Int32) = (0 : Int32))).1) (pc' := 221) rfl ?_
          refine f_iconst A701 at_221 (pc' := 222) rfl 1 rfl ?_
          refine f_goto A701 at_222 (pc' := 226) (by decide) (by decide) ?_
          exact f_retBW A701 hEL hlk hret at_226 (by decide) (1 : Int32) (by decide) (by decide) (by decide) Q691 rfl
    · refine f_iloadN A0 at_0 (pc' := 1) rfl rfl ?_
      refine f_iconst A0 at_1 (pc' := 2) rfl 3 rfl ?_
      refine f_iand A0 at_2 (pc' := 3) rfl (3 : Int32) hm0 ?_
      refine f_istoreN A0 at_3 (pc' := 4) rfl (L' := #[.val (.int lens), .val (.int nb), .val (.int rb), .val (.int (3 : Int32)), .unset, .unset, .unset, .unset, .unset, .unset]) rfl ?_
      refine f_iloadN A0 at_4 (pc' := 5) rfl rfl ?_
      refine f_iconst A0 at_5 (pc' := 6) rfl 2 rfl ?_
      refine f_iushr A0 at_6 (pc' := 7) rfl ((lens.toUInt32 >>> ((2 : Int32) &&& 31).toUInt32).toInt32) rfl ?_
      refine f_iconst A0 at_7 (pc' := 8) rfl 3 rfl ?_
      refine f_iand A0 at_8 (pc' := 9) rfl (3 : Int32) hn1 ?_
      refine f_istore A0 at_9 (pc' := 11) rfl (L' := #[.val (.int lens), .val (.int nb), .val (.int rb), .val (.int (3 : Int32)), .val (.int (3 : Int32)), .unset, .unset, .unset, .unset, .unset]) rfl ?_
      refine f_iloadN A0 at_11 (pc' := 12) rfl rfl ?_
      refine f_iloadN A0 at_12 (pc' := 13) rfl rfl ?_
      refine f_callSW A0 at_13 (pc' := 16) rfl (wd hw 0 rfl) (wd hw 1 rfl) (wd hw 2 rfl) (wd hw 3 rfl) (by decide) pd25 [(.int (3 : Int32)), (.int nb)] [] rfl rfl rfl 0 (Nat.le_of_eq rfl) (CW.pay (W := 0) A0 hEL (m_str3 l Z a0 hw nb e0 e1 e2 zc O2 P5 h0 n0 A0.old hEL he0 s0 he1 s1 he2 s2) (wd hw 3 rfl) (wd hw 2 rfl) (by decide) (by decide) (fun _ q => nomatch q)) (kc := 4) (ks := 14) (by decide) (by decide) all0 fun v702 vm702 T702 h702 L702 A702 K702 C702 q702 => ?_
      have Q703 : Keep h0 h702 [] := K0.trans K702 all0
      obtain ⟨x702, t702, rfl, xg702, G702⟩ := q702
      show Wp pG e below _ T702 (mkF m 16 _ [(.ref x702)])
      refine f_astore A702 at_16 (pc' := 18) rfl rfl (L' := #[.val (.int lens), .val (.int nb), .val (.int rb), .val (.int (3 : Int32)), .val (.int (3 : Int32)), .val (.ref x702), .unset, .unset, .unset, .unset]) rfl ?_
      refine f_iload A702 at_18 (pc' := 20) rfl rfl ?_
      refine f_iloadN A702 at_20 (pc' := 21) rfl rfl ?_
      refine f_callSW A702 at_21 (pc' := 24) rfl (wd hw 0 rfl) (wd hw 1 rfl) (wd hw 2 rfl) (wd hw 3 rfl) (by decide) pd25 [(.int (3 : Int32)), (.int rb)] [] rfl rfl rfl 0 (Nat.le_of_eq rfl) (CW.pay (W := 0) A702 hEL (m_str3 l Z a0 hw rb c0 c1 c2 zc O2 P5 h702 n0 A702.old hEL hc0 r0 hc1 r1 hc2 r2) (wd hw 3 rfl) (wd hw 2 rfl) (by decide) (by decide) (fun _ q => nomatch q)) (kc := 4) (ks := 14) (by decide) (by decide) all0 fun v704 vm704 T704 h704 L704 A704 K704 C704 q704 => ?_
      have Q705 : Keep h0 h704 [] := Q703.trans K704 all0
      obtain ⟨x704, t704, rfl, xg704, G704⟩ := q704
      show Wp pG e below _ T704 (mkF m 24 _ [(.ref x704)])
      refine f_astore A704 at_24 (pc' := 26) rfl rfl (L' := #[.val (.int lens), .val (.int nb), .val (.int rb), .val (.int (3 : Int32)), .val (.int (3 : Int32)), .val (.ref x702), .val (.ref x704), .unset, .unset, .unset]) rfl ?_
      by_cases q0 : c0 = 46
      · refine f_aload A704 at_26 (pc' := 28) rfl rfl rfl ?_
        refine f_aload A704 at_28 (pc' := 30) rfl rfl rfl ?_
        refine f_callSW A704 at_30 (pc' := 33) rfl (wd hw 26 rfl) (wd hw 27 rfl) (wd hw 28 rfl) (wd hw 29 rfl) (by decide) pd26 [(.ref x702), (.ref x704)] [] rfl rfl rfl 0 (Nat.le_of_eq rfl) (CW.pay (W := 0) A704 hEL (m_qd3 l Z a0 hw x702 x704 t704 c0 c1 c2 zc O2 P5 h704 n0 A704.old hEL G704 r0 r1 r2 (by simp [idxD, *])) (wd hw 29 rfl) (wd hw 28 rfl) (by decide) (by decide) (fun _ q => nomatch q)) (kc := 2) (ks := 8) (by decide) (by decide) all0 fun v706 vm706 T706 h706 L706 A706 K706 C706 q706 => ?_
        have Q707 : Keep h0 h706 [] := Q705.trans K706 all0
        obtain rfl := q706
        show Wp pG e below _ T706 (mkF m 33 _ [(.ref x704)])
        refine f_astore A706 at_33 (pc' := 35) rfl rfl (L' := #[.val (.int lens), .val (.int nb), .val (.int rb), .val (.int (3 : Int32)), .val (.int (3 : Int32)), .val (.ref x702), .val (.ref x704), .val (.ref x704), .unset, .unset]) rfl ?_
        refine f_iload A706 at_35 (pc' := 37) rfl rfl ?_
        refine f_ifN A706 at_37 ((if0 _ _).trans (tlt (by decide : (0 : Int32) < (3 : Int32))).2.2.2) (pc' := 40) rfl ?_
        refine f_iloadN A706 at_40 (pc' := 41) rfl rfl ?_
        refine f_iconst A706 at_41 (pc' := 42) rfl 0 rfl ?_
        refine f_callS A706 at_42 (pc' := 45) rfl (wd hw 190 rfl) (wd hw 191 rfl) (wd hw 2 rfl) (wd hw 192 rfl) (by decide) pd16 [(.int rb), (.int (0 : Int32))] [] rfl rfl rfl 0 (Nat.le_of_eq rfl) (CN.pay (W := 0) A706 (m_ch l Z a0 hw rb (0 : Int32) c0 h706 n0 A706.old hc0) (wd hw 192 rfl) (wd hw 2 rfl) (by decide) (by decide)) (kc := 0) (ks := 0) (by decide) (by decide) all0 (fun _ => sf0) fun v708 T708 h708 L708 A708 K708 q708 => ?_
        obtain ⟨rfl, hh708⟩ := q708
        obtain rfl := hh708.symm
        show Wp pG e below _ T708 (mkF m 45 _ [(.int c0)])
        refine f_bipush A708 at_45 (pc' := 47) rfl 46 rfl ?_
        refine f_icY A708 at_47 (teq q0).1 (pc' := 82) (by decide) (by decide) ?_
        refine f_iconst A708 at_82 (pc' := 83) rfl 1 rfl ?_
        refine f_goto A708 at_83 (pc' := 87) (by decide) (by decide) ?_
        refine f_istore A708 at_87 (pc' := 89) rfl (L' := #[.val (.int lens), .val (.int nb), .val (.int rb), .val (.int (3 : Int32)), .val (.int (3 : Int32)), .val (.ref x702), .val (.ref x704), .val (.ref x704), .val (.int (1 : Int32)), .unset]) rfl ?_
        refine f_iload A708 at_89 (pc' := 91) rfl rfl ?_
        refine f_ifN A708 at_91 ((if0 _ _).trans (feq (by decide : ¬ (1 : Int32) = (0 : Int32))).1) (pc' := 94) rfl ?_
        refine f_aload A708 at_94 (pc' := 96) rfl rfl rfl ?_
        refine f_aload A708 at_96 (pc' := 98) rfl rfl rfl ?_
        have c710 := (G704.exa.keep K706)
        refine f_callV A708 (a := x704) at_98 (pc' := 101) rfl (wd hw 206 rfl) (wd hw 207 rfl) (nfS A708 (wd hw 209 rfl)) (wd hw 209 rfl) (wd hw 208 rfl) (by decide) c710 pd28 [(.ref x704)] [] rfl rfl rfl 0 (Nat.le_of_eq rfl) (CN.pay (W := 0) A708 (m_eqself l Z a0 hw x704 h706 n0 A708.old) (wd hw 210 rfl) (wd hw 6 rfl) (by decide) (by decide)) (kc := 0) (ks := 0) (by decide) (by decide) all0 (fun _ => sf0) fun v709 T709 h709 L709 A709 K709 q709 => ?_
        obtain ⟨rfl, hh709⟩ := q709
        obtain rfl := hh709.symm
        show Wp pG e below _ T709 (mkF m 101 _ [(.int (1 : Int32))])
        exact f_retBW A709 hEL hlk hret at_101 (by decide) (1 : Int32) (by decide) (by decide) (by decide) Q707 rfl
      · by_cases q1 : c1 = 46
        · refine f_aload A704 at_26 (pc' := 28) rfl rfl rfl ?_
          refine f_aload A704 at_28 (pc' := 30) rfl rfl rfl ?_
          refine f_callSW A704 at_30 (pc' := 33) rfl (wd hw 26 rfl) (wd hw 27 rfl) (wd hw 28 rfl) (wd hw 29 rfl) (by decide) pd26 [(.ref x702), (.ref x704)] [] rfl rfl rfl 0 (Nat.le_of_eq rfl) (CW.pay (W := 0) A704 hEL (m_qd3 l Z a0 hw x702 x704 t704 c0 c1 c2 zc O2 P5 h704 n0 A704.old hEL G704 r0 r1 r2 (by simp [idxD, *])) (wd hw 29 rfl) (wd hw 28 rfl) (by decide) (by decide) (fun _ q => nomatch q)) (kc := 2) (ks := 8) (by decide) (by decide) all0 fun v711 vm711 T711 h711 L711 A711 K711 C711 q711 => ?_
          have Q712 : Keep h0 h711 [] := Q705.trans K711 all0
          obtain rfl := q711
          show Wp pG e below _ T711 (mkF m 33 _ [(.ref x704)])
          refine f_astore A711 at_33 (pc' := 35) rfl rfl (L' := #[.val (.int lens), .val (.int nb), .val (.int rb), .val (.int (3 : Int32)), .val (.int (3 : Int32)), .val (.ref x702), .val (.ref x704), .val (.ref x704), .unset, .unset]) rfl ?_
          refine f_iload A711 at_35 (pc' := 37) rfl rfl ?_
          refine f_ifN A711 at_37 ((if0 _ _).trans (tlt (by decide : (0 : Int32) < (3 : Int32))).2.2.2) (pc' := 40) rfl ?_
          refine f_iloadN A711 at_40 (pc' := 41) rfl rfl ?_
          refine f_iconst A711 at_41 (pc' := 42) rfl 0 rfl ?_
          refine f_callS A711 at_42 (pc' := 45) rfl (wd hw 190 rfl) (wd hw 191 rfl) (wd hw 2 rfl) (wd hw 192 rfl) (by decide) pd16 [(.int rb), (.int (0 : Int32))] [] rfl rfl rfl 0 (Nat.le_of_eq rfl) (CN.pay (W := 0) A711 (m_ch l Z a0 hw rb (0 : Int32) c0 h711 n0 A711.old hc0) (wd hw 192 rfl) (wd hw 2 rfl) (by decide) (by decide)) (kc := 0) (ks := 0) (by decide) (by decide) all0 (fun _ => sf0) fun v713 T713 h713 L713 A713 K713 q713 => ?_
          obtain ⟨rfl, hh713⟩ := q713
          obtain rfl := hh713.symm
          show Wp pG e below _ T713 (mkF m 45 _ [(.int c0)])
          refine f_bipush A713 at_45 (pc' := 47) rfl 46 rfl ?_
          refine f_icN A713 at_47 (feq q0).1 (pc' := 50) rfl ?_
          refine f_iload A713 at_50 (pc' := 52) rfl rfl ?_
          refine f_iconst A713 at_52 (pc' := 53) rfl 1 rfl ?_
          refine f_icN A713 at_53 (tlt (by decide : (1 : Int32) < (3 : Int32))).2.2.2 (pc' := 56) rfl ?_
          refine f_iloadN A713 at_56 (pc' := 57) rfl rfl ?_
          refine f_iconst A713 at_57 (pc' := 58) rfl 1 rfl ?_
          refine f_callS A713 at_58 (pc' := 61) rfl (wd hw 190 rfl) (wd hw 191 rfl) (wd hw 2 rfl) (wd hw 192 rfl) (by decide) pd16 [(.int rb), (.int (1 : Int32))] [] rfl rfl rfl 0 (Nat.le_of_eq rfl) (CN.pay (W := 0) A713 (m_ch l Z a0 hw rb (1 : Int32) c1 h711 n0 A713.old hc1) (wd hw 192 rfl) (wd hw 2 rfl) (by decide) (by decide)) (kc := 0) (ks := 0) (by decide) (by decide) all0 (fun _ => sf0) fun v714 T714 h714 L714 A714 K714 q714 => ?_
          obtain ⟨rfl, hh714⟩ := q714
          obtain rfl := hh714.symm
          show Wp pG e below _ T714 (mkF m 61 _ [(.int c1)])
          refine f_bipush A714 at_61 (pc' := 63) rfl 46 rfl ?_
          refine f_icY A714 at_63 (teq q1).1 (pc' := 82) (by decide) (by decide) ?_
          refine f_iconst A714 at_82 (pc' := 83) rfl 1 rfl ?_
          refine f_goto A714 at_83 (pc' := 87) (by decide) (by decide) ?_
          refine f_istore A714 at_87 (pc' := 89) rfl (L' := #[.val (.int lens), .val (.int nb), .val (.int rb), .val (.int (3 : Int32)), .val (.int (3 : Int32)), .val (.ref x702), .val (.ref x704), .val (.ref x704), .val (.int (1 : Int32)), .unset]) rfl ?_
          refine f_iload A714 at_89 (pc' := 91) rfl rfl ?_
          refine f_ifN A714 at_91 ((if0 _ _).trans (feq (by decide : ¬ (1 : Int32) = (0 : Int32))).1) (pc' := 94) rfl ?_
          refine f_aload A714 at_94 (pc' := 96) rfl rfl rfl ?_
          refine f_aload A714 at_96 (pc' := 98) rfl rfl rfl ?_
          have c716 := (G704.exa.keep K711)
          refine f_callV A714 (a := x704) at_98 (pc' := 101) rfl (wd hw 206 rfl) (wd hw 207 rfl) (nfS A714 (wd hw 209 rfl)) (wd hw 209 rfl) (wd hw 208 rfl) (by decide) c716 pd28 [(.ref x704)] [] rfl rfl rfl 0 (Nat.le_of_eq rfl) (CN.pay (W := 0) A714 (m_eqself l Z a0 hw x704 h711 n0 A714.old) (wd hw 210 rfl) (wd hw 6 rfl) (by decide) (by decide)) (kc := 0) (ks := 0) (by decide) (by decide) all0 (fun _ => sf0) fun v715 T715 h715 L715 A715 K715 q715 => ?_
          obtain ⟨rfl, hh715⟩ := q715
          obtain rfl := hh715.symm
          show Wp pG e below _ T715 (mkF m 101 _ [(.int (1 : Int32))])
          exact f_retBW A715 hEL hlk hret at_101 (by decide) (1 : Int32) (by decide) (by decide) (by decide) Q712 rfl
        · by_cases q2 : c2 = 46
          · refine f_aload A704 at_26 (pc' := 28) rfl rfl rfl ?_
            refine f_aload A704 at_28 (pc' := 30) rfl rfl rfl ?_
            refine f_callSW A704 at_30 (pc' := 33) rfl (wd hw 26 rfl) (wd hw 27 rfl) (wd hw 28 rfl) (wd hw 29 rfl) (by decide) pd26 [(.ref x702), (.ref x704)] [] rfl rfl rfl 0 (Nat.le_of_eq rfl) (CW.pay (W := 0) A704 hEL (m_qd3 l Z a0 hw x702 x704 t704 c0 c1 c2 zc O2 P5 h704 n0 A704.old hEL G704 r0 r1 r2 (by simp [idxD, *])) (wd hw 29 rfl) (wd hw 28 rfl) (by decide) (by decide) (fun _ q => nomatch q)) (kc := 2) (ks := 8) (by decide) (by decide) all0 fun v717 vm717 T717 h717 L717 A717 K717 C717 q717 => ?_
            have Q718 : Keep h0 h717 [] := Q705.trans K717 all0
            obtain rfl := q717
            show Wp pG e below _ T717 (mkF m 33 _ [(.ref x704)])
            refine f_astore A717 at_33 (pc' := 35) rfl rfl (L' := #[.val (.int lens), .val (.int nb), .val (.int rb), .val (.int (3 : Int32)), .val (.int (3 : Int32)), .val (.ref x702), .val (.ref x704), .val (.ref x704), .unset, .unset]) rfl ?_
            refine f_iload A717 at_35 (pc' := 37) rfl rfl ?_
            refine f_ifN A717 at_37 ((if0 _ _).trans (tlt (by decide : (0 : Int32) < (3 : Int32))).2.2.2) (pc' := 40) rfl ?_
            refine f_iloadN A717 at_40 (pc' := 41) rfl rfl ?_
            refine f_iconst A717 at_41 (pc' := 42) rfl 0 rfl ?_
            refine f_callS A717 at_42 (pc' := 45) rfl (wd hw 190 rfl) (wd hw 191 rfl) (wd hw 2 rfl) (wd hw 192 rfl) (by decide) pd16 [(.int rb), (.int (0 : Int32))] [] rfl rfl rfl 0 (Nat.le_of_eq rfl) (CN.pay (W := 0) A717 (m_ch l Z a0 hw rb (0 : Int32) c0 h717 n0 A717.old hc0) (wd hw 192 rfl) (wd hw 2 rfl) (by decide) (by decide)) (kc := 0) (ks := 0) (by decide) (by decide) all0 (fun _ => sf0) fun v719 T719 h719 L719 A719 K719 q719 => ?_
            obtain ⟨rfl, hh719⟩ := q719
            obtain rfl := hh719.symm
            show Wp pG e below _ T719 (mkF m 45 _ [(.int c0)])
            refine f_bipush A719 at_45 (pc' := 47) rfl 46 rfl ?_
            refine f_icN A719 at_47 (feq q0).1 (pc' := 50) rfl ?_
            refine f_iload A719 at_50 (pc' := 52) rfl rfl ?_
            refine f_iconst A719 at_52 (pc' := 53) rfl 1 rfl ?_
            refine f_icN A719 at_53 (tlt (by decide : (1 : Int32) < (3 : Int32))).2.2.2 (pc' := 56) rfl ?_
            refine f_iloadN A719 at_56 (pc' := 57) rfl rfl ?_
            refine f_iconst A719 at_57 (pc' := 58) rfl 1 rfl ?_
            refine f_callS A719 at_58 (pc' := 61) rfl (wd hw 190 rfl) (wd hw 191 rfl) (wd hw 2 rfl) (wd hw 192 rfl) (by decide) pd16 [(.int rb), (.int (1 : Int32))] [] rfl rfl rfl 0 (Nat.le_of_eq rfl) (CN.pay (W := 0) A719 (m_ch l Z a0 hw rb (1 : Int32) c1 h717 n0 A719.old hc1) (wd hw 192 rfl) (wd hw 2 rfl) (by decide) (by decide)) (kc := 0) (ks := 0) (by decide) (by decide) all0 (fun _ => sf0) fun v720 T720 h720 L720 A720 K720 q720 => ?_
            obtain ⟨rfl, hh720⟩ := q720
            obtain rfl := hh720.symm
            show Wp pG e below _ T720 (mkF m 61 _ [(.int c1)])
            refine f_bipush A720 at_61 (pc' := 63) rfl 46 rfl ?_
            refine f_icN A720 at_63 (feq q1).1 (pc' := 66) rfl ?_
            refine f_iload A720 at_66 (pc' := 68) rfl rfl ?_
            refine f_iconst A720 at_68 (pc' := 69) rfl 2 rfl ?_
            refine f_icN A720 at_69 (tlt (by decide : (2 : Int32) < (3 : Int32))).2.2.2 (pc' := 72) rfl ?_
            refine f_iloadN A720 at_72 (pc' := 73) rfl rfl ?_
            refine f_iconst A720 at_73 (pc' := 74) rfl 2 rfl ?_
            refine f_callS A720 at_74 (pc' := 77) rfl (wd hw 190 rfl) (wd hw 191 rfl) (wd hw 2 rfl) (wd hw 192 rfl) (by decide) pd16 [(.int rb), (.int (2 : Int32))] [] rfl rfl rfl 0 (Nat.le_of_eq rfl) (CN.pay (W := 0) A720 (m_ch l Z a0 hw rb (2 : Int32) c2 h717 n0 A720.old hc2) (wd hw 192 rfl) (wd hw 2 rfl) (by decide) (by decide)) (kc := 0) (ks := 0) (by decide) (by decide) all0 (fun _ => sf0) fun v721 T721 h721 L721 A721 K721 q721 => ?_
            obtain ⟨rfl, hh721⟩ := q721
            obtain rfl := hh721.symm
            show Wp pG e below _ T721 (mkF m 77 _ [(.int c2)])
            refine f_bipush A721 at_77 (pc' := 79) rfl 46 rfl ?_
            refine f_icN A721 at_79 (teq q2).2 (pc' := 82) rfl ?_
            refine f_iconst A721 at_82 (pc' := 83) rfl 1 rfl ?_
            refine f_goto A721 at_83 (pc' := 87) (by decide) (by decide) ?_
            refine f_istore A721 at_87 (pc' := 89) rfl (L' := #[.val (.int lens), .val (.int nb), .val (.int rb), .val (.int (3 : Int32)), .val (.int (3 : Int32)), .val (.ref x702), .val (.ref x704), .val (.ref x704), .val (.int (1 : Int32)), .unset]) rfl ?_
            refine f_iload A721 at_89 (pc' := 91) rfl rfl ?_
            refine f_ifN A721 at_91 ((if0 _ _).trans (feq (by decide : ¬ (1 : Int32) = (0 : Int32))).1) (pc' := 94) rfl ?_
            refine f_aload A721 at_94 (pc' := 96) rfl rfl rfl ?_
            refine f_aload A721 at_96 (pc' := 98) rfl rfl rfl ?_
            have c723 := (G704.exa.keep K717)
            refine f_callV A721 (a := x704) at_98 (pc' := 101) rfl (wd hw 206 rfl) (wd hw 207 rfl) (nfS A721 (wd hw 209 rfl)) (wd hw 209 rfl) (wd hw 208 rfl) (by decide) c723 pd28 [(.ref x704)] [] rfl rfl rfl 0 (Nat.le_of_eq rfl) (CN.pay (W := 0) A721 (m_eqself l Z a0 hw x704 h717 n0 A721.old) (wd hw 210 rfl) (wd hw 6 rfl) (by decide) (by decide)) (kc := 0) (ks := 0) (by decide) (by decide) all0 (fun _ => sf0) fun v722 T722 h722 L722 A722 K722 q722 => ?_
            obtain ⟨rfl, hh722⟩ := q722
            obtain rfl := hh722.symm
            show Wp pG e below _ T722 (mkF m 101 _ [(.int (1 : Int32))])
            exact f_retBW A722 hEL hlk hret at_101 (by decide) (1 : Int32) (by decide) (by decide) (by decide) Q718 rfl
          · refine f_aload A704 at_26 (pc' := 28) rfl rfl rfl ?_
            refine f_aload A704 at_28 (pc' := 30) rfl rfl rfl ?_
            have c724 := (G702.keep K704 nin0 nin0)
            refine f_callSW A704 at_30 (pc' := 33) rfl (wd hw 26 rfl) (wd hw 27 rfl) (wd hw 28 rfl) (wd hw 29 rfl) (by decide) pd26 [(.ref x702), (.ref x704)] [] rfl rfl rfl 0 (Nat.le_of_eq rfl) (CW.pay (W := 0) A704 hEL (m_qn3 l Z a0 hw x702 t702 x704 t704 [e0, e1, e2] c0 c1 c2 zc O2 P5 h704 n0 A704.old hEL c724 G704 (lc s0 (lc s1 (lc s2 ln))) (Nat.le_of_ble_eq_true rfl) r0 r1 r2 (by simp [idxD, *])) (wd hw 29 rfl) (wd hw 28 rfl) (by decide) (by decide) (fun _ q => nomatch q)) (kc := 9) (ks := 150) (by decide) (by decide) all0 fun v725 vm725 T725 h725 L725 A725 K725 C725 q725 => ?_
            have Q726 : Keep h0 h725 [] := Q705.trans K725 all0
            obtain ⟨a725, b725, rfl, ag725, G725⟩ := q725
            have G725 : Str Z h725 a725 b725 [e0, e1, e2, (46 : Int32), c0, c1, c2] := G725
            show Wp pG e below _ T725 (mkF m 33 _ [(.ref a725)])
            refine f_astore A725 at_33 (pc' := 35) rfl rfl (L' := #[.val (.int lens), .val (.int nb), .val (.int rb), .val (.int (3 : Int32)), .val (.int (3 : Int32)), .val (.ref x702), .val (.ref x704), .val (.ref a725), .unset, .unset]) rfl ?_
            refine f_iload A725 at_35 (pc' := 37) rfl rfl ?_
            refine f_ifN A725 at_37 ((if0 _ _).trans (tlt (by decide : (0 : Int32) < (3 : Int32))).2.2.2) (pc' := 40) rfl ?_
            refine f_iloadN A725 at_40 (pc' := 41) rfl rfl ?_
            refine f_iconst A725 at_41 (pc' := 42) rfl 0 rfl ?_
            refine f_callS A725 at_42 (pc' := 45) rfl (wd hw 190 rfl) (wd hw 191 rfl) (wd hw 2 rfl) (wd hw 192 rfl) (by decide) pd16 [(.int rb), (.int (0 : Int32))] [] rfl rfl rfl 0 (Nat.le_of_eq rfl) (CN.pay (W := 0) A725 (m_ch l Z a0 hw rb (0 : Int32) c0 h725 n0 A725.old hc0) (wd hw 192 rfl) (wd hw 2 rfl) (by decide) (by decide)) (kc := 0) (ks := 0) (by decide) (by decide) all0 (fun _ => sf0) fun v727 T727 h727 L727 A727 K727 q727 => ?_
            obtain ⟨rfl, hh727⟩ := q727
            obtain rfl := hh727.symm
            show Wp pG e below _ T727 (mkF m 45 _ [(.int c0)])
            refine f_bipush A727 at_45 (pc' := 47) rfl 46 rfl ?_
            refine f_icN A727 at_47 (feq q0).1 (pc' := 50) rfl ?_
            refine f_iload A727 at_50 (pc' := 52) rfl rfl ?_
            refine f_iconst A727 at_52 (pc' := 53) rfl 1 rfl ?_
            refine f_icN A727 at_53 (tlt (by decide : (1 : Int32) < (3 : Int32))).2.2.2 (pc' := 56) rfl ?_
            refine f_iloadN A727 at_56 (pc' := 57) rfl rfl ?_
            refine f_iconst A727 at_57 (pc' := 58) rfl 1 rfl ?_
            refine f_callS A727 at_58 (pc' := 61) rfl (wd hw 190 rfl) (wd hw 191 rfl) (wd hw 2 rfl) (wd hw 192 rfl) (by decide) pd16 [(.int rb), (.int (1 : Int32))] [] rfl rfl rfl 0 (Nat.le_of_eq rfl) (CN.pay (W := 0) A727 (m_ch l Z a0 hw rb (1 : Int32) c1 h725 n0 A727.old hc1) (wd hw 192 rfl) (wd hw 2 rfl) (by decide) (by decide)) (kc := 0) (ks := 0) (by decide) (by decide) all0 (fun _ => sf0) fun v728 T728 h728 L728 A728 K728 q728 => ?_
            obtain ⟨rfl, hh728⟩ := q728
            obtain rfl := hh728.symm
            show Wp pG e below _ T728 (mkF m 61 _ [(.int c1)])
            refine f_bipush A728 at_61 (pc' := 63) rfl 46 rfl ?_
            refine f_icN A728 at_63 (feq q1).1 (pc' := 66) rfl ?_
            refine f_iload A728 at_66 (pc' := 68) rfl rfl ?_
            refine f_iconst A728 at_68 (pc' := 69) rfl 2 rfl ?_
            refine f_icN A728 at_69 (tlt (by decide : (2 : Int32) < (3 : Int32))).2.2.2 (pc' := 72) rfl ?_
            refine f_iloadN A728 at_72 (pc' := 73) rfl rfl ?_
            refine f_iconst A728 at_73 (pc' := 74) rfl 2 rfl ?_
            refine f_callS A728 at_74 (pc' := 77) rfl (wd hw 190 rfl) (wd hw 191 rfl) (wd hw 2 rfl) (wd hw 192 rfl) (by decide) pd16 [(.int rb), (.int (2 : Int32))] [] rfl rfl rfl 0 (Nat.le_of_eq rfl) (CN.pay (W := 0) A728 (m_ch l Z a0 hw rb (2 : Int32) c2 h725 n0 A728.old hc2) (wd hw 192 rfl) (wd hw 2 rfl) (by decide) (by decide)) (kc := 0) (ks := 0) (by decide) (by decide) all0 (fun _ => sf0) fun v729 T729 h729 L729 A729 K729 q729 => ?_
            obtain ⟨rfl, hh729⟩ := q729
            obtain rfl := hh729.symm
            show Wp pG e below _ T729 (mkF m 77 _ [(.int c2)])
            refine f_bipush A729 at_77 (pc' := 79) rfl 46 rfl ?_
            refine f_icY A729 at_79 (feq q2).2 (pc' := 86) (by decide) (by decide) ?_
            refine f_iconst A729 at_86 (pc' := 87) rfl 0 rfl ?_
            refine f_istore A729 at_87 (pc' := 89) rfl (L' := #[.val (.int lens), .val (.int nb), .val (.int rb), .val (.int (3 : Int32)), .val (.int (3 : Int32)), .val (.ref x702), .val (.ref x704), .val (.ref a725), .val (.int (0 : Int32)), .unset]) rfl ?_
            refine f_iload A729 at_89 (pc' := 91) rfl rfl ?_
            refine f_ifY A729 at_91 ((if0 _ _).trans (teq (by decide : (0 : Int32) = (0 : Int32))).1) (pc' := 102) (by decide) (by decide) ?_
            refine f_iloadN A729 at_102 (pc' := 103) rfl rfl ?_
            refine f_iconst A729 at_103 (pc' := 104) rfl 1 rfl ?_
            refine f_iadd A729 at_104 (pc' := 105) rfl (4 : Int32) (by decide) ?_
            refine f_iload A729 at_105 (pc' := 107) rfl rfl ?_
            refine f_iadd A729 at_107 (pc' := 108) rfl (7 : Int32) (by decide) ?_
            refine f_istore A729 at_108 (pc' := 110) rfl (L' := #[.val (.int lens), .val (.int nb), .val (.int rb), .val (.int (3 : Int32)), .val (.int (3 : Int32)), .val (.ref x702), .val (.ref x704), .val (.ref a725), .val (.int (0 : Int32)), .val (.int (7 : Int32))]) rfl ?_
            refine f_aload A729 at_110 (pc' := 112) rfl rfl rfl ?_
            refine f_callV A729 (a := a725) at_112 (pc' := 115) rfl (wd hw 170 rfl) (wd hw 94 rfl) (nfS A729 (wd hw 96 rfl)) (wd hw 96 rfl) (wd hw 95 rfl) (by decide) G725.exa pd5 [] [] rfl rfl rfl 0 (Nat.le_of_eq rfl) (payLen (W := 0) A729 hw (wd hw 5 rfl) G725 O2 P5 (by decide) (by decide)) (kc := 0) (ks := 0) (by decide) (by decide) all0 (fun _ => sf0) fun v730 T730 h730 L730 A730 K730 q730 => ?_
            obtain ⟨rfl, hh730⟩ := q730
            obtain rfl := hh730.symm
            show Wp pG e below _ T730 (mkF m 115 _ [(.int (7 : Int32))])
            refine f_iload A730 at_115 (pc' := 117) rfl rfl ?_
            refine f_icY A730 at_117 (teq (by decide : (7 : Int32) = (7 : Int32))).1 (pc' := 122) (by decide) (by decide) ?_
            refine f_aload A730 at_122 (pc' := 124) rfl rfl rfl ?_
            refine f_iconst A730 at_124 (pc' := 125) rfl 0 rfl ?_
            refine f_iload A730 at_125 (pc' := 127) rfl rfl ?_
            refine f_iloadN A730 at_127 (pc' := 128) rfl rfl ?_
            refine f_iloadN A730 at_128 (pc' := 129) rfl rfl ?_
            refine f_iloadN A730 at_129 (pc' := 130) rfl rfl ?_
            refine f_callS A730 at_130 (pc' := 133) rfl (wd hw 171 rfl) (wd hw 172 rfl) (wd hw 2 rfl) (wd hw 173 rfl) (by decide) pd27 [(.ref a725), (.int (0 : Int32)), (.int (7 : Int32)), (.int (3 : Int32)), (.int nb), (.int rb)] [] rfl rfl rfl 0 (Nat.le_of_eq rfl) (CN.pay (W := 0) A730 (m_okN l Z a0 hw a725 (0 : Int32) (7 : Int32) (3 : Int32) nb rb b725 [e0, e1, e2, (46 : Int32), c0, c1, c2] 0 e0 zc O2 P5 fm O4 rG3 h725 n0 A730.old G725 (lat2 (lc s0 (lc s1 (lc s2 (lc (by decide) (lc r0 (lc r1 (lc r2 ln)))))))) (Nat.le_of_ble_eq_true rfl) rfl rfl (by decide) (by decide) he0) (wd hw 173 rfl) (wd hw 2 rfl) (by decide) (by decide)) (kc := 0) (ks := 0) (by decide) (by decide) all0 (fun _ => sf0) fun v731 T731 h731 L731 A731 K731 q731 => ?_
            obtain ⟨rfl, hh731⟩ := q731
            obtain rfl := hh731.symm
            show Wp pG e below _ T731 (mkF m 133 _ [(.int (1 : Int32))])
            refine f_ifN A731 at_133 ((if0 _ _).trans (feq (by decide : ¬ (1 : Int32) = (0 : Int32))).1) (pc' := 136) rfl ?_
            refine f_aload A731 at_136 (pc' := 138) rfl rfl rfl ?_
            refine f_iconst A731 at_138 (pc' := 139) rfl 1 rfl ?_
            refine f_iload A731 at_139 (pc' := 141) rfl rfl ?_
            refine f_iloadN A731 at_141 (pc' := 142) rfl rfl ?_
            refine f_iloadN A731 at_142 (pc' := 143) rfl rfl ?_
            refine f_iloadN A731 at_143 (pc' := 144) rfl rfl ?_
            refine f_callS A731 at_144 (pc' := 147) rfl (wd hw 171 rfl) (wd hw 172 rfl) (wd hw 2 rfl) (wd hw 173 rfl) (by decide) pd27 [(.ref a725), (.int (1 : Int32)), (.int (7 : Int32)), (.int (3 : Int32)), (.int nb), (.int rb)] [] rfl rfl rfl 0 (Nat.le_of_eq rfl) (CN.pay (W := 0) A731 (m_okN l Z a0 hw a725 (1 : Int32) (7 : Int32) (3 : Int32) nb rb b725 [e0, e1, e2, (46 : Int32), c0, c1, c2] 1 e1 zc O2 P5 fm O4 rG3 h725 n0 A731.old G725 (lat2 (lc s0 (lc s1 (lc s2 (lc (by decide) (lc r0 (lc r1 (lc r2 ln)))))))) (Nat.le_of_ble_eq_true rfl) rfl rfl (by decide) (by decide) he1) (wd hw 173 rfl) (wd hw 2 rfl) (by decide) (by decide)) (kc := 0) (ks := 0) (by decide) (by decide) all0 (fun _ => sf0) fun v732 T732 h732 L732 A732 K732 q732 => ?_
            obtain ⟨rfl, hh732⟩ := q732
            obtain rfl := hh732.symm
            show Wp pG e below _ T732 (mkF m 147 _ [(.int (1 : Int32))])
            refine f_ifN A732 at_147 ((if0 _ _).trans (feq (by decide : ¬ (1 : Int32) = (0 : Int32))).1) (pc' := 150) rfl ?_
            refine f_aload A732 at_150 (pc' := 152) rfl rfl rfl ?_
            refine f_iconst A732 at_152 (pc' := 153) rfl 2 rfl ?_
            refine f_iload A732 at_153 (pc' := 155) rfl rfl ?_
            refine f_iloadN A732 at_155 (pc' := 156) rfl rfl ?_
            refine f_iloadN A732 at_156 (pc' := 157) rfl rfl ?_
            refine f_iloadN A732 at_157 (pc' := 158) rfl rfl ?_
            refine f_callS A732 at_158 (pc' := 161) rfl (wd hw 171 rfl) (wd hw 172 rfl) (wd hw 2 rfl) (wd hw 173 rfl) (by decide) pd27 [(.ref a725), (.int (2 : Int32)), (.int (7 : Int32)), (.int (3 : Int32)), (.int nb), (.int rb)] [] rfl rfl rfl 0 (Nat.le_of_eq rfl) (CN.pay (W := 0) A732 (m_okN l Z a0 hw a725 (2 : Int32) (7 : Int32) (3 : Int32) nb rb b725 [e0, e1, e2, (46 : Int32), c0, c1, c2] 2 e2 zc O2 P5 fm O4 rG3 h725 n0 A732.old G725 (lat2 (lc s0 (lc s1 (lc s2 (lc (by decide) (lc r0 (lc r1 (lc r2 ln)))))))) (Nat.le_of_ble_eq_true rfl) rfl rfl (by decide) (by decide) he2) (wd hw 173 rfl) (wd hw 2 rfl) (by decide) (by decide)) (kc := 0) (ks := 0) (by decide) (by decide) all0 (fun _ => sf0) fun v733 T733 h733 L733 A733 K733 q733 => ?_
            obtain ⟨rfl, hh733⟩ := q733
            obtain rfl := hh733.symm
            show Wp pG e below _ T733 (mkF m 161 _ [(.int (1 : Int32))])
            refine f_ifN A733 at_161 ((if0 _ _).trans (feq (by decide : ¬ (1 : Int32) = (0 : Int32))).1) (pc' := 164) rfl ?_
            refine f_aload A733 at_164 (pc' := 166) rfl rfl rfl ?_
            refine f_iconst A733 at_166 (pc' := 167) rfl 3 rfl ?_
            refine f_iload A733 at_167 (pc' := 169) rfl rfl ?_
            refine f_iloadN A733 at_169 (pc' := 170) rfl rfl ?_
            refine f_iloadN A733 at_170 (pc' := 171) rfl rfl ?_
            refine f_iloadN A733 at_171 (pc' := 172) rfl rfl ?_
            refine f_callS A733 at_172 (pc' := 175) rfl (wd hw 171 rfl) (wd hw 172 rfl) (wd hw 2 rfl) (wd hw 173 rfl) (by decide) pd27 [(.ref a725), (.int (3 : Int32)), (.int (7 : Int32)), (.int (3 : Int32)), (.int nb), (.int rb)] [] rfl rfl rfl 0 (Nat.le_of_eq rfl) (CN.pay (W := 0) A733 (m_okD l Z a0 hw a725 (3 : Int32) (7 : Int32) (3 : Int32) nb rb b725 [e0, e1, e2, (46 : Int32), c0, c1, c2] 3 (46 : Int32) zc O2 P5 fm O4 rG3 h725 n0 A733.old G725 (lat2 (lc s0 (lc s1 (lc s2 (lc (by decide) (lc r0 (lc r1 (lc r2 ln)))))))) (Nat.le_of_ble_eq_true rfl) rfl rfl (by decide) rfl (by decide) rfl) (wd hw 173 rfl) (wd hw 2 rfl) (by decide) (by decide)) (kc := 0) (ks := 0) (by decide) (by decide) all0 (fun _ => sf0) fun v734 T734 h734 L734 A734 K734 q734 => ?_
            obtain ⟨rfl, hh734⟩ := q734
            obtain rfl := hh734.symm
            show Wp pG e below _ T734 (mkF m 175 _ [(.int (1 : Int32))])
            refine f_ifN A734 at_175 ((if0 _ _).trans (feq (by decide : ¬ (1 : Int32) = (0 : Int32))).1) (pc' := 178) rfl ?_
            refine f_aload A734 at_178 (pc' := 180) rfl rfl rfl ?_
            refine f_iconst A734 at_180 (pc' := 181) rfl 4 rfl ?_
            refine f_iload A734 at_181 (pc' := 183) rfl rfl ?_
            refine f_iloadN A734 at_183 (pc' := 184) rfl rfl ?_
            refine f_iloadN A734 at_184 (pc' := 185) rfl rfl ?_
            refine f_iloadN A734 at_185 (pc' := 186) rfl rfl ?_
            refine f_callS A734 at_186 (pc' := 189) rfl (wd hw 171 rfl) (wd hw 172 rfl) (wd hw 2 rfl) (wd hw 173 rfl) (by decide) pd27 [(.ref a725), (.int (4 : Int32)), (.int (7 : Int32)), (.int (3 : Int32)), (.int nb), (.int rb)] [] rfl rfl rfl 0 (Nat.le_of_eq rfl) (CN.pay (W := 0) A734 (m_okR l Z a0 hw a725 (4 : Int32) (7 : Int32) (3 : Int32) nb rb b725 [e0, e1, e2, (46 : Int32), c0, c1, c2] 4 c0 zc O2 P5 fm O4 rG3 h725 n0 A734.old G725 (lat2 (lc s0 (lc s1 (lc s2 (lc (by decide) (lc r0 (lc r1 (lc r2 ln)))))))) (Nat.le_of_ble_eq_true rfl) rfl rfl (by decide) (by decide) (by decide) hc0) (wd hw 173 rfl) (wd hw 2 rfl) (by decide) (by decide)) (kc := 0) (ks := 0) (by decide) (by decide) all0 (fun _ => sf0) fun v735 T735 h735 L735 A735 K735 q735 => ?_
            obtain ⟨rfl, hh735⟩ := q735
            obtain rfl := hh735.symm
            show Wp pG e below _ T735 (mkF m 189 _ [(.int (1 : Int32))])
            refine f_ifN A735 at_189 ((if0 _ _).trans (feq (by decide : ¬ (1 : Int32) = (0 : Int32))).1) (pc' := 192) rfl ?_
            refine f_aload A735 at_192 (pc' := 194) rfl rfl rfl ?_
            refine f_iconst A735 at_194 (pc' := 195) rfl 5 rfl ?_
            refine f_iload A735 at_195 (pc' := 197) rfl rfl ?_
            refine f_iloadN A735 at_197 (pc' := 198) rfl rfl ?_
            refine f_iloadN A735 at_198 (pc' := 199) rfl rfl ?_
            refine f_iloadN A735 at_199 (pc' := 200) rfl rfl ?_
            refine f_callS A735 at_200 (pc' := 203) rfl (wd hw 171 rfl) (wd hw 172 rfl) (wd hw 2 rfl) (wd hw 173 rfl) (by decide) pd27 [(.ref a725), (.int (5 : Int32)), (.int (7 : Int32)), (.int (3 : Int32)), (.int nb), (.int rb)] [] rfl rfl rfl 0 (Nat.le_of_eq rfl) (CN.pay (W := 0) A735 (m_okR l Z a0 hw a725 (5 : Int32) (7 : Int32) (3 : Int32) nb rb b725 [e0, e1, e2, (46 : Int32), c0, c1, c2] 5 c1 zc O2 P5 fm O4 rG3 h725 n0 A735.old G725 (lat2 (lc s0 (lc s1 (lc s2 (lc (by decide) (lc r0 (lc r1 (lc r2 ln)))))))) (Nat.le_of_ble_eq_true rfl) rfl rfl (by decide) (by decide) (by decide) hc1) (wd hw 173 rfl) (wd hw 2 rfl) (by decide) (by decide)) (kc := 0) (ks := 0) (by decide) (by decide) all0 (fun _ => sf0) fun v736 T736 h736 L736 A736 K736 q736 => ?_
            obtain ⟨rfl, hh736⟩ := q736
            obtain rfl := hh736.symm
            show Wp pG e below _ T736 (mkF m 203 _ [(.int (1 : Int32))])
            refine f_ifN A736 at_203 ((if0 _ _).trans (feq (by decide : ¬ (1 : Int32) = (0 : Int32))).1) (pc' := 206) rfl ?_
            refine f_aload A736 at_206 (pc' := 208) rfl rfl rfl ?_
            refine f_bipush A736 at_208 (pc' := 210) rfl 6 rfl ?_
            refine f_iload A736 at_210 (pc' := 212) rfl rfl ?_
            refine f_iloadN A736 at_212 (pc' := 213) rfl rfl ?_
            refine f_iloadN A736 at_213 (pc' := 214) rfl rfl ?_
            refine f_iloadN A736 at_214 (pc' := 215) rfl rfl ?_
            refine f_callS A736 at_215 (pc' := 218) rfl (wd hw 171 rfl) (wd hw 172 rfl) (wd hw 2 rfl) (wd hw 173 rfl) (by decide) pd27 [(.ref a725), (.int (6 : Int32)), (.int (7 : Int32)), (.int (3 : Int32)), (.int nb), (.int rb)] [] rfl rfl rfl 0 (Nat.le_of_eq rfl) (CN.pay (W := 0) A736 (m_okR l Z a0 hw a725 (6 : Int32) (7 : Int32) (3 : Int32) nb rb b725 [e0, e1, e2, (46 : Int32), c0, c1, c2] 6 c2 zc O2 P5 fm O4 rG3 h725 n0 A736.old G725 (lat2 (lc s0 (lc s1 (lc s2 (lc (by decide) (lc r0 (lc r1 (lc r2 ln)))))))) (Nat.le_of_ble_eq_true rfl) rfl rfl (by decide) (by decide) (by decide) hc2) (wd hw 173 rfl) (wd hw 2 rfl) (by decide) (by decide)) (kc := 0) (ks := 0) (by decide) (by decide) all0 (fun _ => sf0) fun v737 T737 h737 L737 A737 K737 q737 => ?_
            obtain ⟨rfl, hh737⟩ := q737
            obtain rfl := hh737.symm
            show Wp pG e below _ T737 (mkF m 218 _ [(.int (1 : Int32))])
            refine f_ifN A737 at_218 ((if0 _ _).trans (feq (by decide : ¬ (1 : Int32) = (0 : Int32))).1) (pc' := 221) rfl ?_
            refine f_iconst A737 at_221 (pc' := 222) rfl 1 rfl ?_
            refine f_goto A737 at_222 (pc' := 226) (by decide) (by decide) ?_
            exact f_retBW A737 hEL hlk hret at_226 (by decide) (1 : Int32) (by decide) (by decide) (by decide) Q726 rfl
set_option maxRecDepth 65536 in
set_option maxHeartbeats 40000000 in
theorem comes_1 {Post : Tables → Env → Array Value → State → Outcome → State → Prop} (hpost : ∀ tb e args s v u, (limb_1_1.after args s (.returned v) u = true ∧ limb_1_2.after args s (.returned v) u = true ∧ True) → ReturnedEndW s (.returned v) u (Jvm.fieldLocs frame_1_writes args s ++ Jvm.arrayLocs frame_1_arrays args s ++ Jvm.staticLocs frame_1_statics s) 32 2240 → Post tb e args s (.returned v) u) :
    ArmFor flags0 classFile x code maxLocals ret World_1 tables_1 room_1 Calls_1 rest_1 Pre_1 Post := by
  intro l hfl _ _ p e ha hc hk s m args below hf hA hF happ hP
  obtain ⟨hcalls, hrest, hpre⟩ := hP
  obtain ⟨-, -, -, hnamed, -, -, -, hat⟩ := (Spec.applies_iff hf).mp happ
  obtain ⟨hg, hn⟩ := and_e (Cond.before_iff.mp (show (Jvm.Cond.and given_1 narrow_1).before args s = true from hpre))
  obtain ⟨gc, g0⟩ := and_e hg
  obtain ⟨b0, g1⟩ := and_e g0
  obtain ⟨b1, g2⟩ := and_e g1
  obtain ⟨w0, w1, w2, rfl⟩ : ∃ w0 w1 w2 : Value, args = #[w0, w1, w2] := by
    have hs : args.size = 3 := by simpa [Cond.value, given_1] using gc
    obtain ⟨L⟩ := args
    match L, hs with
    | [w0, w1, w2], _ => exact ⟨w0, w1, w2, rfl⟩
  have hw := fun d (hd : d ∈ tables_1) => atoms_spec (ws := Jvm.Cond.code x code maxLocals ret :: tables_1) hat d (List.mem_cons_of_mem _ hd)
  obtain ⟨hsets, hown0⟩ := atoms_of _ (rest_1_c_eq ▸ (show rest_1_c.before _ s = true from hrest))
  obtain ⟨i0, ei0⟩ := is_v b0
  obtain rfl : w0 = (.int i0) := Option.some.inj ei0
  obtain ⟨i1, ei1⟩ := is_v b1
  obtain rfl : w1 = (.int i1) := Option.some.inj ei1
  obtain ⟨i2, ei2⟩ := is_v g2
  obtain rfl : w2 = (.int i2) := Option.some.inj ei2
  obtain ⟨zc, ezc⟩ := is_v (Cond.before_iff.mp (hsets _ (List.mem_of_getElem? (i := 1) rfl)))
  have O2 : Sta s s.heap "java/lang/String" "COMPACT_STRINGS" "Z" (.int zc) := Sta.start ezc (Or.inl (hsets _ (List.mem_of_getElem? (i := 0) rfl)))
  have P5 : ¬ zc = 0 := gotF (Cond.eq_ints ezc (Term.int_eval (0))) (not_v (Cond.before_iff.mp (hsets _ (List.mem_of_getElem? (i := 2) rfl))))
  obtain ⟨fm, efm, rG3⟩ := isR_v (Cond.before_iff.mp (hsets _ (List.mem_of_getElem? (i := 8) rfl)))
  have O4 : Sta s s.heap "jdk/internal/util/Preconditions" "SIOOBE_FORMATTER" "Ljava/util/function/BiFunction;" fm := Sta.start efm (Or.inl (hsets _ (List.mem_of_getElem? (i := 7) rfl)))
  have hEL : EW s #[.int i0, .int i1, .int i2] ELs := (EW.cons (wd hw 30 rfl) (by decide) (EW.cons (wd hw 18 rfl) (by decide) EW.nil))
  have hCH : CHv s ELs s.vm s.heap := CHv.start hEL (fun p hp => hcalls.1 p ((by decide : ∀ p ∈ ELs, p ∈ consts_1) p hp)) (a0 := #[.int i0, .int i1, .int i2]) (hsets _ (List.mem_of_getElem? (i := 2) rfl)) (wd hw 19 rfl) (wd hw 5 rfl)
  obtain ⟨n, o, h1, h2, h3, v, L, rfl, ⟨N, -, hv⟩, hC, hq⟩ := m_law l s _ hw tables_1 i0 i1 i2 zc O2 P5 fm O4 rG3 s.heap s.heap.size (Old.start s) hEL  p e ha hc hk s m _ below hf ((Spec.applies_iff_loose hf).mp happ).1 ⟨rfl, State.Warmed39.refl s, rfl, hCH, fun _ q => nomatch q⟩ trivial
  obtain rfl := hv
  refine ⟨n, _, h1, h2, h3, hpost _ _ _ _ _ _ ⟨Cond.after_iff.mpr rfl, Cond.after_iff.mpr (eq_i res_at (Term.int_eval (1)) rfl), trivial⟩ ⟨hq.1, hq.2.1, hq.2.2.1, (hq.2.2.2.sift fun y hy => Or.inr (N y hy)).mono (by decide) (by decide)⟩⟩
theorem main_1_1 : Claimed_1_1 := comes_1 fun _ _ _ _ _ _ h hF => ⟨h.1, hF⟩
theorem main_1_2 : Claimed_1_2 := comes_1 fun _ _ _ _ _ _ h hF => ⟨h.2.1, hF⟩
end Jvm.Pilot.@@N@@
namespace Jvm.Pilot.@@N@@
open Jvm Jvm.ClassFile Sem Op Lib Jvm.Free Jvm.Stand Jvm.Pilot.@@N@@.Jvm.D
/-! MADE BY PROGRAM (witnessworld.py) out of the Statement's table words and the real class files: 26 classes; the members and pool entries that the words name. The judged class is class 1, her method 1. -/
namespace start1
open Jvm.ClassFile
def u (s : String) : CpInfo := .utf8 (stringToUtf16 s)
/-- a pool by its gaps: so many unusable entries, then the entry; so many at the end -/
def gap : Nat → List CpInfo → List CpInfo
  | 0, r => r
  | n + 1, r => .unusable :: gap n r
def poolList (es : List (Nat × CpInfo)) (last : Nat) : List CpInfo := es.foldr (fun e r => gap e.1 (e.2 :: r)) (gap last [])
def pool (es : List (Nat × CpInfo)) (last : Nat) : Array CpInfo := ⟨poolList es last⟩
def fileOf (pool : Array CpInfo) (this : Nat) (attrs : Array Attribute := #[]) (ms : Array MethodInfo := #[]) (fl : Nat := 33) (sup : Nat := 0) (ifs : Array Nat := #[]) (fds : Array FieldInfo := #[]) : ClassFile where
  minorVersion := 0
  majorVersion := 65
  constantPool := pool
  accessFlags := fl
  thisClass := this
  superClass := sup
  interfaces := ifs
  fields := fds
  methods := ms
  attributes := attrs
def plain (name : String) (sup : Option ClassId) : Class where
  name := name
  kind := .ordinary
  loader := none
  accessFlags := 33
  super := sup
  interfaces := #[]
  cf := none
  fields := #[]
  methods := #[]
  instanceTypes := #[]
  staticTypes := #[]
  resolved := #[]
  callSites := []
  init := .initialized
  statics := none
  mirror := none

def pool0 : Array CpInfo := pool [(5, u "<init>"), (0, u "()V"), (1, .class_ 10), (1, u "java/lang/Object")] 113

def k0c0 : Code := { maxStack := 0, maxLocals := 1, code := object_method_1_code, exceptionTable := #[], attributes := #[] }
def k0m0 : Method := { name := "<init>", desc := "()V", sig := { parameters := [], returnType := none }, accessFlags := 1, code := some k0c0 }
/-- java/lang/Object -/
def k0 : Class := { plain "java/lang/Object" none with
  accessFlags := 33
  interfaces := #[]
  cf := some (fileOf pool0 8 #[] #[{ accessFlags := 1, nameIndex := 5, descriptorIndex := 6, attributes := #[] }] 33 0 #[] #[])
  fields := #[]
  methods := #[k0m0]
  instanceTypes := #[]
  staticTypes := #[]
  resolved := Array.replicate 124 none
  statics := none }

def pool1 : Array CpInfo := pool [(2, .class_ 4), (1, u "java/lang/Object"), (0, u "<init>"), (0, u "()V"), (0, .methodref 8 9), (0, .class_ 10), (0, .nameAndType 11 12), (0, u "com/example/mapwright/mapwright/config/MapperReaderQualifiedPinLaw"), (0, u "str"), (0, u "(II)Ljava/lang/String;"), (0, .methodref 14 15), (0, .class_ 16), (0, .nameAndType 17 18), (0, u "com/example/mapwright/mapwright/config/MapperReader"), (0, u "qualified"), (0, u "(Ljava/lang/String;Ljava/lang/String;)Ljava/lang/String;"), (0, .methodref 8 20), (0, .nameAndType 21 22), (0, u "ch"), (0, u "(II)C"), (0, .methodref 24 25), (0, .class_ 26), (0, .nameAndType 27 28), (0, u "java/lang/String"), (0, u "equals"), (0, u "(Ljava/lang/Object;)Z"), (0, .methodref 24 30), (0, .nameAndType 31 32), (0, u "length"), (0, u "()I"), (0, .methodref 8 34), (0, .nameAndType 35 36), (0, u "ok"), (0, u "(Ljava/lang/String;IIIII)Z"), (0, .methodref 24 38), (0, .nameAndType 5 39), (0, u "([C)V"), (0, .methodref 24 41), (0, .nameAndType 42 43), (0, u "charAt"), (0, u "(I)C"), (2, u "law"), (0, u "(III)Z")] 3

def k1m0 : Method := { name := "<init>", desc := "()V", sig := { parameters := [], returnType := none }, accessFlags := 1, code := none }
def k1c1 : Code := { maxStack := 6, maxLocals := 10, code := code, exceptionTable := #[], attributes := #[] }
def k1m1 : Method := { name := "law", desc := "(III)Z", sig := { parameters := [.int, .int, .int], returnType := some .boolean }, accessFlags := 9, code := some k1c1 }
def k1c2 : Code := { maxStack := 3, maxLocals := 3, code := method_3_code, exceptionTable := #[], attributes := #[] }
def k1m2 : Method := { name := "ch", desc := "(II)C", sig := { parameters := [.int, .int], returnType := some .char }, accessFlags := 10, code := some k1c2 }
def k1c3 : Code := { maxStack := 7, maxLocals := 2, code := method_4_code, exceptionTable := #[], attributes := #[] }
def k1m3 : Method := { name := "str", desc := "(II)Ljava/lang/String;", sig := { parameters := [.int, .int], returnType := some (.object "java/lang/String") }, accessFlags := 10, code := some k1c3 }
def k1c4 : Code := { maxStack := 3, maxLocals := 7, code := method_5_code, exceptionTable := #[], attributes := #[] }
def k1m4 : Method := { name := "ok", desc := "(Ljava/lang/String;IIIII)Z", sig := { parameters := [(.object "java/lang/String"), .int, .int, .int, .int, .int], returnType := some .boolean }, accessFlags := 10, code := some k1c4 }
/-- com/example/mapwright/mapwright/config/MapperReaderQualifiedPinLaw -/
def k1 : Class := { plain "com/example/mapwright/mapwright/config/MapperReaderQualifiedPinLaw" (some 0) with
  accessFlags := 49
  interfaces := #[]
  cf := some (fileOf pool1 8 #[] #[{ accessFlags := 1, nameIndex := 5, descriptorIndex := 6, attributes := #[] }, { accessFlags := 9, nameIndex := 46, descriptorIndex := 47, attributes := #[] }, { accessFlags := 10, nameIndex := 21, descriptorIndex := 22, attributes := #[] }, { accessFlags := 10, nameIndex := 11, descriptorIndex := 12, attributes := #[] }, { accessFlags := 10, nameIndex := 35, descriptorIndex := 36, attributes := #[] }] 49 2 #[] #[])
  fields := #[]
  methods := #[k1m0, k1m1, k1m2, k1m3, k1m4]
  instanceTypes := #[]
  staticTypes := #[]
  resolved := Array.replicate 51 none
  statics := none }

def pool2 : Array CpInfo := pool [(1, .class_ 2), (0, u "java/io/Serializable"), (0, .class_ 4), (0, u "java/lang/Object")] 2

/-- java/io/Serializable -/
def k2 : Class := { plain "java/io/Serializable" (some 0) with
  accessFlags := 1537
  interfaces := #[]
  cf := some (fileOf pool2 1 #[] #[] 1537 3 #[] #[])
  fields := #[]
  methods := #[]
  instanceTypes := #[]
  staticTypes := #[]
  resolved := Array.replicate 7 none
  statics := none }

def pool3 : Array CpInfo := pool [(1, .class_ 2), (0, u "java/lang/Comparable"), (0, .class_ 4), (0, u "java/lang/Object")] 7

/-- java/lang/Comparable -/
def k3 : Class := { plain "java/lang/Comparable" (some 0) with
  accessFlags := 1537
  interfaces := #[]
  cf := some (fileOf pool3 1 #[] #[] 1537 3 #[] #[])
  fields := #[]
  methods := #[]
  instanceTypes := #[]
  staticTypes := #[]
  resolved := Array.replicate 12 none
  statics := none }

def pool4 : Array CpInfo := pool [(2, .class_ 4), (1, u "java/lang/CharSequence"), (42, .class_ 48), (0, u "java/lang/CharSequence$1CodePointIterator"), (10, .class_ 60), (0, u "java/lang/CharSequence$1CharIterator"), (5, .class_ 67), (0, u "java/lang/Object"), (10, u "toString"), (0, u "()Ljava/lang/String;")] 51

def k4m0 : Method := { name := "toString", desc := "()Ljava/lang/String;", sig := { parameters := [], returnType := some (.object "java/lang/String") }, accessFlags := 1025, code := none }
/-- java/lang/CharSequence -/
def k4 : Class := { plain "java/lang/CharSequence" (some 0) with
  accessFlags := 1537
  interfaces := #[]
  cf := some (fileOf pool4 2 #[.nestMembers #[47, 59]] #[{ accessFlags := 1025, nameIndex := 78, descriptorIndex := 79, attributes := #[] }] 1537 66 #[] #[])
  fields := #[]
  methods := #[k4m0]
  instanceTypes := #[]
  staticTypes := #[]
  resolved := Array.replicate 131 none
  statics := none }

def pool5 : Array CpInfo := pool [(1, .class_ 2), (0, u "java/lang/constant/Constable"), (0, .class_ 4), (0, u "java/lang/Object")] 6

/-- java/lang/constant/Constable -/
def k5 : Class := { plain "java/lang/constant/Constable" (some 0) with
  accessFlags := 1537
  interfaces := #[]
  cf := some (fileOf pool5 1 #[] #[] 1537 3 #[] #[])
  fields := #[]
  methods := #[]
  instanceTypes := #[]
  staticTypes := #[]
  resolved := Array.replicate 11 none
  statics := none }

def pool6 : Array CpInfo := pool [(1, .class_ 2), (0, u "java/lang/constant/ConstantDesc"), (0, .class_ 4), (0, u "java/lang/Object")] 32

/-- java/lang/constant/ConstantDesc -/
def k6 : Class := { plain "java/lang/constant/ConstantDesc" (some 0) with
  accessFlags := 1537
  interfaces := #[]
  cf := some (fileOf pool6 1 #[] #[] 1537 3 #[] #[])
  fields := #[]
  methods := #[]
  instanceTypes := #[]
  staticTypes := #[]
  resolved := Array.replicate 37 none
  statics := none }

def pool7 : Array CpInfo := pool [(1, .methodref 2 3), (0, .class_ 4), (0, .nameAndType 5 6), (0, u "java/lang/Object"), (0, u "<init>"), (0, u "()V"), (0, .string 8), (0, u ""), (0, .fieldref 10 11), (0, .class_ 12), (0, .nameAndType 13 14), (0, u "java/lang/String"), (0, u "value"), (0, u "[B"), (0, .fieldref 10 16), (0, .nameAndType 17 18), (0, u "coder"), (0, u "B"), (2, u "hash"), (0, u "I"), (2, u "hashIsZero"), (0, u "Z"), (0, .methodref 10 28), (0, .nameAndType 5 29), (0, u "([CIILjava/lang/Void;)V"), (8, .fieldref 10 39), (0, .nameAndType 40 26), (0, u "COMPACT_STRINGS"), (1, .class_ 44), (1, u "java/lang/StringUTF16"), (0, u "compress"), (1, .methodref 42 48), (0, .nameAndType 49 50), (0, u "coderFromArrayLen"), (0, u "([BI)B"), (3, .methodref 55 56), (0, .class_ 57), (0, .nameAndType 58 59), (0, u "java/util/Arrays"), (0, u "copyOfRange"), (0, u "([BII)[B"), (47, .class_ 109), (1, u "java/lang/StringLatin1"), (32, u "()Z"), (34, .methodref 42 178), (0, .nameAndType 45 179), (0, u "([CII)[B"), (13, .class_ 195), (1, u "java/lang/System"), (16, .methodref 193 213), (0, .nameAndType 214 215), (0, u "arraycopy"), (0, u "(Ljava/lang/Object;ILjava/lang/Object;II)V"), (118, u "()I"), (0, .methodref 10 336), (0, .nameAndType 17 337), (0, u "()B"), (2, u "()[B"), (22, u "([BI)C"), (27, u "(II)V"), (35, u "(I)C"), (34, .nameAndType 463 464), (0, u "toString"), (0, u "()Ljava/lang/String;"), (24, .methodref 10 490), (0, .nameAndType 5 491), (0, u "(Ljava/lang/AbstractStringBuilder;Ljava/lang/Void;)V"), (0, .methodref 10 493), (0, .nameAndType 494 142), (0, u "isLatin1"), (0, .methodref 107 496), (0, .nameAndType 497 363), (0, u "charAt"), (3, u "checkIndex"), (4, .nameAndType 507 334), (0, u "length"), (24, u "getBytes"), (10, u "equals"), (4, u "(Ljava/lang/CharSequence;)Z"), (0, .methodref 550 506), (0, .class_ 551), (0, u "java/lang/AbstractStringBuilder"), (0, .methodref 550 553), (0, .nameAndType 554 340), (0, u "getValue"), (18, u "(Ljava/lang/Object;)Z"), (1, .class_ 576), (0, u "java/lang/CharSequence"), (12, u "([B[B)I"), (9, u "CASE_INSENSITIVE_ORDER"), (0, u "Ljava/util/Comparator;"), (34, u "indexOf"), (11, .methodref 107 648), (0, .nameAndType 635 589), (61, .interfaceMethodref 575 462), (0, .methodref 10 712), (0, .nameAndType 635 713), (0, u "(Ljava/lang/String;)I"), (107, u "([BIB)V"), (188, u "([C)V"), (36, .methodref 550 493), (5, .fieldref 1054 1055), (0, .class_ 1056), (0, .nameAndType 1057 1058), (0, u "jdk/internal/util/Preconditions"), (0, u "SIOOBE_FORMATTER"), (0, u "Ljava/util/function/BiFunction;"), (0, .methodref 1054 1060), (0, .nameAndType 501 1061), (0, u "(IILjava/util/function/BiFunction;)I"), (39, u "serialPersistentFields"), (0, u "[Ljava/io/ObjectStreamField;"), (0, .class_ 1104), (0, u "java/lang/String$CaseInsensitiveComparator"), (1, .class_ 1107), (0, u "java/io/Serializable"), (0, .class_ 1109), (0, u "java/lang/Comparable"), (0, .class_ 1111), (0, u "java/lang/constant/Constable"), (0, .class_ 1113), (0, u "java/lang/constant/ConstantDesc"), (2, u "serialVersionUID"), (0, u "J"), (3, u "REPL"), (0, u "C"), (2, u "LATIN1"), (1, u "UTF16"), (105, u "(Ljava/lang/StringBuilder;)V"), (57, u "contains")] 159

def k7m0 : Method := { name := "<init>", desc := "()V", sig := { parameters := [], returnType := none }, accessFlags := 1, code := none }
def k7c1 : Code := { maxStack := 5, maxLocals := 2, code := jdk_42_method_3_code, exceptionTable := #[], attributes := #[] }
def k7m1 : Method := { name := "<init>", desc := "([C)V", sig := { parameters := [(.array .char)], returnType := none }, accessFlags := 1, code := some k7c1 }
def k7c2 : Code := { maxStack := 3, maxLocals := 2, code := jdk_42_method_53_code, exceptionTable := #[], attributes := #[] }
def k7m2 : Method := { name := "<init>", desc := "(Ljava/lang/StringBuilder;)V", sig := { parameters := [(.object "java/lang/StringBuilder")], returnType := none }, accessFlags := 1, code := some k7c2 }
def k7c3 : Code := { maxStack := 2, maxLocals := 1, code := jdk_42_method_54_code, exceptionTable := #[], attributes := #[] }
def k7m3 : Method := { name := "length", desc := "()I", sig := { parameters := [], returnType := some .int }, accessFlags := 1, code := some k7c3 }
def k7c4 : Code := { maxStack := 2, maxLocals := 2, code := jdk_42_method_56_code, exceptionTable := #[], attributes := #[] }
def k7m4 : Method := { name := "charAt", desc := "(I)C", sig := { parameters := [.int], returnType := some .char }, accessFlags := 1, code := some k7c4 }
def k7c5 : Code := { maxStack := 2, maxLocals := 3, code := jdk_42_method_66_code, exceptionTable := #[], attributes := #[] }
def k7m5 : Method := { name := "equals", desc := "(Ljava/lang/Object;)Z", sig := { parameters := [(.object "java/lang/Object")], returnType := some .boolean }, accessFlags := 1, code := some k7c5 }
def k7c6 : Code := { maxStack := 2, maxLocals := 3, code := jdk_42_method_84_code, exceptionTable := #[], attributes := #[] }
def k7m6 : Method := { name := "indexOf", desc := "(Ljava/lang/String;)I", sig := { parameters := [(.object "java/lang/String")], returnType := some .int }, accessFlags := 1, code := some k7c6 }
def k7c7 : Code := { maxStack := 2, maxLocals := 2, code := jdk_42_method_97_code, exceptionTable := #[], attributes := #[] }
def k7m7 : Method := { name := "contains", desc := "(Ljava/lang/CharSequence;)Z", sig := { parameters := [(.object "java/lang/CharSequence")], returnType := some .boolean }, accessFlags := 1, code := some k7c7 }
def k7c8 : Code := { maxStack := 1, maxLocals := 1, code := jdk_42_method_126_code, exceptionTable := #[], attributes := #[] }
def k7m8 : Method := { name := "toString", desc := "()Ljava/lang/String;", sig := { parameters := [], returnType := some (.object "java/lang/String") }, accessFlags := 1, code := some k7c8 }
def k7c9 : Code := { maxStack := 5, maxLocals := 4, code := jdk_42_method_147_code, exceptionTable := #[], attributes := #[] }
def k7m9 : Method := { name := "getBytes", desc := "([BIB)V", sig := { parameters := [(.array .byte), .int, .byte], returnType := none }, accessFlags := 0, code := some k7c9 }
def k7c10 : Code := { maxStack := 4, maxLocals := 6, code := jdk_42_method_149_code, exceptionTable := #[], attributes := #[] }
def k7m10 : Method := { name := "<init>", desc := "([CIILjava/lang/Void;)V", sig := { parameters := [(.array .char), .int, .int, (.object "java/lang/Void")], returnType := none }, accessFlags := 2, code := some k7c10 }
def k7c11 : Code := { maxStack := 5, maxLocals := 5, code := jdk_42_method_150_code, exceptionTable := #[], attributes := #[] }
def k7m11 : Method := { name := "<init>", desc := "(Ljava/lang/AbstractStringBuilder;Ljava/lang/Void;)V", sig := { parameters := [(.object "java/lang/AbstractStringBuilder"), (.object "java/lang/Void")], returnType := none }, accessFlags := 0, code := some k7c11 }
def k7c12 : Code := { maxStack := 1, maxLocals := 1, code := jdk_42_method_152_code, exceptionTable := #[], attributes := #[] }
def k7m12 : Method := { name := "coder", desc := "()B", sig := { parameters := [], returnType := some .byte }, accessFlags := 0, code := some k7c12 }
def k7c13 : Code := { maxStack := 1, maxLocals := 1, code := jdk_42_method_154_code, exceptionTable := #[], attributes := #[] }
def k7m13 : Method := { name := "isLatin1", desc := "()Z", sig := { parameters := [], returnType := some .boolean }, accessFlags := 0, code := some k7c13 }
def k7c14 : Code := { maxStack := 3, maxLocals := 2, code := jdk_42_method_155_code, exceptionTable := #[], attributes := #[] }
def k7m14 : Method := { name := "checkIndex", desc := "(II)V", sig := { parameters := [.int, .int], returnType := none }, accessFlags := 8, code := some k7c14 }
/-- java/lang/String -/
def k7 : Class := { plain "java/lang/String" (some 0) with
  accessFlags := 49
  interfaces := #[2, 3, 4, 5, 6]
  cf := some (fileOf pool7 10 #[.nestMembers #[1103]] #[{ accessFlags := 1, nameIndex := 5, descriptorIndex := 6, attributes := #[] }, { accessFlags := 1, nameIndex := 5, descriptorIndex := 1010, attributes := #[] }, { accessFlags := 1, nameIndex := 5, descriptorIndex := 1233, attributes := #[] }, { accessFlags := 1, nameIndex := 507, descriptorIndex := 334, attributes := #[] }, { accessFlags := 1, nameIndex := 497, descriptorIndex := 427, attributes := #[] }, { accessFlags := 1, nameIndex := 543, descriptorIndex := 573, attributes := #[] }, { accessFlags := 1, nameIndex := 635, descriptorIndex := 713, attributes := #[] }, { accessFlags := 1, nameIndex := 1291, descriptorIndex := 548, attributes := #[] }, { accessFlags := 1, nameIndex := 463, descriptorIndex := 464, attributes := #[] }, { accessFlags := 0, nameIndex := 532, descriptorIndex := 821, attributes := #[] }, { accessFlags := 2, nameIndex := 5, descriptorIndex := 29, attributes := #[] }, { accessFlags := 0, nameIndex := 5, descriptorIndex := 491, attributes := #[] }, { accessFlags := 0, nameIndex := 17, descriptorIndex := 337, attributes := #[] }, { accessFlags := 0, nameIndex := 494, descriptorIndex := 142, attributes := #[] }, { accessFlags := 8, nameIndex := 501, descriptorIndex := 391, attributes := #[] }] 49 2 #[1106, 1108, 575, 1110, 1112] #[{ accessFlags := 18, nameIndex := 13, descriptorIndex := 14, attributes := #[] }, { accessFlags := 18, nameIndex := 17, descriptorIndex := 18, attributes := #[] }, { accessFlags := 2, nameIndex := 21, descriptorIndex := 22, attributes := #[] }, { accessFlags := 2, nameIndex := 25, descriptorIndex := 26, attributes := #[] }, { accessFlags := 26, nameIndex := 1116, descriptorIndex := 1117, attributes := #[] }, { accessFlags := 24, nameIndex := 40, descriptorIndex := 26, attributes := #[] }, { accessFlags := 26, nameIndex := 1101, descriptorIndex := 1102, attributes := #[] }, { accessFlags := 26, nameIndex := 1121, descriptorIndex := 1122, attributes := #[] }, { accessFlags := 25, nameIndex := 599, descriptorIndex := 600, attributes := #[] }, { accessFlags := 24, nameIndex := 1125, descriptorIndex := 18, attributes := #[] }, { accessFlags := 24, nameIndex := 1127, descriptorIndex := 18, attributes := #[] }])
  fields := #[{ name := "value", type := (.array .byte), accessFlags := 18, slot := 0, constantValue := 0 }, { name := "coder", type := .byte, accessFlags := 18, slot := 1, constantValue := 0 }, { name := "hash", type := .int, accessFlags := 2, slot := 2, constantValue := 0 }, { name := "hashIsZero", type := .boolean, accessFlags := 2, slot := 3, constantValue := 0 }, { name := "serialVersionUID", type := .long, accessFlags := 26, slot := 0, constantValue := 0 }, { name := "COMPACT_STRINGS", type := .boolean, accessFlags := 24, slot := 1, constantValue := 0 }, { name := "serialPersistentFields", type := (.array (.object "java/io/ObjectStreamField")), accessFlags := 26, slot := 2, constantValue := 0 }, { name := "REPL", type := .char, accessFlags := 26, slot := 3, constantValue := 0 }, { name := "CASE_INSENSITIVE_ORDER", type := (.object "java/util/Comparator"), accessFlags := 25, slot := 4, constantValue := 0 }, { name := "LATIN1", type := .byte, accessFlags := 24, slot := 5, constantValue := 0 }, { name := "UTF16", type := .byte, accessFlags := 24, slot := 6, constantValue := 0 }]
  methods := #[k7m0, k7m1, k7m2, k7m3, k7m4, k7m5, k7m6, k7m7, k7m8, k7m9, k7m10, k7m11, k7m12, k7m13, k7m14]
  instanceTypes := #[(.array .byte), .byte, .int, .boolean]
  staticTypes := #[.long, .boolean, (.array (.object "java/io/ObjectStreamField")), .char, (.object "java/util/Comparator"), .byte, .byte]
  resolved := Array.replicate 1451 none
  statics := some 0 }

def pool8 : Array CpInfo := pool [(2, .class_ 4), (0, .nameAndType 5 6), (0, u "java/lang/Object"), (0, u "<init>"), (0, u "()V"), (4, .class_ 13), (1, u "com/example/mapwright/mapwright/config/MapperReader"), (0, u "namespaces"), (0, u "Ljava/util/Set;"), (5, u "fragments"), (0, u "Ljava/util/Map;"), (5, u "statements"), (2, u "aliases"), (0, u "Lcom/example/mapwright/mapwright/config/TypeAliases;"), (2, u "typeHandlers"), (0, u "Lcom/example/mapwright/mapwright/types/TypeHandlers;"), (7, u "resultMaps"), (0, u "Lcom/example/mapwright/mapwright/config/ResultMapReader;"), (13, u "caches"), (0, u "Lcom/example/mapwright/mapwright/config/CacheReader;"), (8, .class_ 70), (0, u "java/lang/String"), (39, u "()Ljava/lang/String;"), (61, .class_ 174), (1, u "com/example/mapwright/mapwright/config/MapperReader$PendingStatement"), (68, .class_ 244), (0, u "java/lang/StringBuilder"), (0, .methodref 243 3), (0, .methodref 243 247), (0, .nameAndType 248 249), (0, u "append"), (0, u "(Ljava/lang/String;)Ljava/lang/StringBuilder;"), (0, .string 251), (0, u "."), (0, .methodref 243 253), (0, .nameAndType 254 110), (0, u "toString"), (28, u "COMMON_ATTRIBUTES"), (0, u "Ljava/util/List;"), (5, u "OWN_ATTRIBUTES"), (31, u "qualified"), (0, u "(Ljava/lang/String;Ljava/lang/String;)Ljava/lang/String;"), (57, .methodref 69 382), (0, .nameAndType 383 384), (0, u "contains"), (0, u "(Ljava/lang/CharSequence;)Z")] 158

def k8c0 : Code := { maxStack := 2, maxLocals := 2, code := prog_26_method_11_code, exceptionTable := #[], attributes := #[] }
def k8m0 : Method := { name := "qualified", desc := "(Ljava/lang/String;Ljava/lang/String;)Ljava/lang/String;", sig := { parameters := [(.object "java/lang/String"), (.object "java/lang/String")], returnType := some (.object "java/lang/String") }, accessFlags := 8, code := some k8c0 }
/-- com/example/mapwright/mapwright/config/MapperReader -/
def k8 : Class := { plain "com/example/mapwright/mapwright/config/MapperReader" (some 0) with
  accessFlags := 48
  interfaces := #[]
  cf := some (fileOf pool8 11 #[.nestMembers #[172]] #[{ accessFlags := 8, nameIndex := 322, descriptorIndex := 323, attributes := #[] }] 48 2 #[] #[{ accessFlags := 26, nameIndex := 283, descriptorIndex := 284, attributes := #[] }, { accessFlags := 26, nameIndex := 290, descriptorIndex := 22, attributes := #[] }, { accessFlags := 18, nameIndex := 31, descriptorIndex := 32, attributes := #[] }, { accessFlags := 18, nameIndex := 35, descriptorIndex := 36, attributes := #[] }, { accessFlags := 18, nameIndex := 14, descriptorIndex := 15, attributes := #[] }, { accessFlags := 18, nameIndex := 21, descriptorIndex := 22, attributes := #[] }, { accessFlags := 18, nameIndex := 44, descriptorIndex := 45, attributes := #[] }, { accessFlags := 18, nameIndex := 59, descriptorIndex := 60, attributes := #[] }, { accessFlags := 18, nameIndex := 28, descriptorIndex := 22, attributes := #[] }])
  fields := #[{ name := "COMMON_ATTRIBUTES", type := (.object "java/util/List"), accessFlags := 26, slot := 0, constantValue := 0 }, { name := "OWN_ATTRIBUTES", type := (.object "java/util/Map"), accessFlags := 26, slot := 1, constantValue := 0 }, { name := "aliases", type := (.object "com/example/mapwright/mapwright/config/TypeAliases"), accessFlags := 18, slot := 0, constantValue := 0 }, { name := "typeHandlers", type := (.object "com/example/mapwright/mapwright/types/TypeHandlers"), accessFlags := 18, slot := 1, constantValue := 0 }, { name := "namespaces", type := (.object "java/util/Set"), accessFlags := 18, slot := 2, constantValue := 0 }, { name := "fragments", type := (.object "java/util/Map"), accessFlags := 18, slot := 3, constantValue := 0 }, { name := "resultMaps", type := (.object "com/example/mapwright/mapwright/config/ResultMapReader"), accessFlags := 18, slot := 4, constantValue := 0 }, { name := "caches", type := (.object "com/example/mapwright/mapwright/config/CacheReader"), accessFlags := 18, slot := 5, constantValue := 0 }, { name := "statements", type := (.object "java/util/Map"), accessFlags := 18, slot := 6, constantValue := 0 }]
  methods := #[k8m0]
  instanceTypes := #[(.object "com/example/mapwright/mapwright/config/TypeAliases"), (.object "com/example/mapwright/mapwright/types/TypeHandlers"), (.object "java/util/Set"), (.object "java/util/Map"), (.object "com/example/mapwright/mapwright/config/ResultMapReader"), (.object "com/example/mapwright/mapwright/config/CacheReader"), (.object "java/util/Map")]
  staticTypes := #[(.object "java/util/List"), (.object "java/util/Map")]
  resolved := Array.replicate 543 none
  statics := none }

def pool9 : Array CpInfo := pool [(1, .class_ 2), (0, u "java/lang/String"), (1, .class_ 6), (1, u "java/lang/Object"), (0, u "<init>"), (0, u "()V"), (0, .methodref 1 10), (0, .nameAndType 11 12), (0, u "checkIndex"), (0, u "(II)V"), (1, .class_ 16), (1, u "java/lang/StringLatin1"), (36, u "([BI)C"), (45, .methodref 14 100), (0, .nameAndType 101 102), (0, u "indexOf"), (0, u "([BI[BII)I"), (18, u "$assertionsDisabled"), (0, u "Z"), (98, .class_ 223), (1, u "java/lang/StringLatin1$LinesSpliterator"), (28, u "charAt"), (34, u "([B[B)I"), (102, .class_ 391), (0, u "java/lang/StringLatin1$CharsSpliterator")] 3

def k9m0 : Method := { name := "<init>", desc := "()V", sig := { parameters := [], returnType := none }, accessFlags := 0, code := none }
def k9c1 : Code := { maxStack := 2, maxLocals := 2, code := jdk_43_method_2_code, exceptionTable := #[], attributes := #[] }
def k9m1 : Method := { name := "charAt", desc := "([BI)C", sig := { parameters := [(.array .byte), .int], returnType := some .char }, accessFlags := 9, code := some k9c1 }
def k9c2 : Code := { maxStack := 5, maxLocals := 2, code := jdk_43_method_24_code, exceptionTable := #[], attributes := #[] }
def k9m2 : Method := { name := "indexOf", desc := "([B[B)I", sig := { parameters := [(.array .byte), (.array .byte)], returnType := some .int }, accessFlags := 9, code := some k9c2 }
def k9c3 : Code := { maxStack := 3, maxLocals := 11, code := jdk_43_method_25_code, exceptionTable := #[], attributes := #[] }
def k9m3 : Method := { name := "indexOf", desc := "([BI[BII)I", sig := { parameters := [(.array .byte), .int, (.array .byte), .int, .int], returnType := some .int }, accessFlags := 9, code := some k9c3 }
/-- java/lang/StringLatin1 -/
def k9 : Class := { plain "java/lang/StringLatin1" (some 0) with
  accessFlags := 48
  interfaces := #[]
  cf := some (fileOf pool9 14 #[.nestMembers #[390, 221]] #[{ accessFlags := 0, nameIndex := 7, descriptorIndex := 8, attributes := #[] }, { accessFlags := 9, nameIndex := 252, descriptorIndex := 53, attributes := #[] }, { accessFlags := 9, nameIndex := 101, descriptorIndex := 287, attributes := #[] }, { accessFlags := 9, nameIndex := 101, descriptorIndex := 102, attributes := #[] }] 48 4 #[] #[{ accessFlags := 4120, nameIndex := 121, descriptorIndex := 122, attributes := #[] }])
  fields := #[{ name := "$assertionsDisabled", type := .boolean, accessFlags := 4120, slot := 0, constantValue := 0 }]
  methods := #[k9m0, k9m1, k9m2, k9m3]
  instanceTypes := #[]
  staticTypes := #[.boolean]
  resolved := Array.replicate 395 none
  statics := none }

def pool10 : Array CpInfo := pool [(1, .class_ 2), (0, u "java/lang/Appendable"), (0, .class_ 4), (0, u "java/lang/Object")] 9

/-- java/lang/Appendable -/
def k10 : Class := { plain "java/lang/Appendable" (some 0) with
  accessFlags := 1537
  interfaces := #[]
  cf := some (fileOf pool10 1 #[] #[] 1537 3 #[] #[])
  fields := #[]
  methods := #[]
  instanceTypes := #[]
  staticTypes := #[]
  resolved := Array.replicate 14 none
  statics := none }

def pool11 : Array CpInfo := pool [(1, .class_ 2), (0, u "java/lang/String"), (0, .methodref 4 5), (0, .class_ 6), (0, .nameAndType 7 8), (0, u "java/lang/Object"), (0, u "<init>"), (0, u "()V"), (1, .class_ 12), (1, u "java/lang/AbstractStringBuilder"), (0, u "EMPTYVALUE"), (0, u "[B"), (0, .fieldref 10 16), (0, .nameAndType 17 14), (0, u "value"), (0, .fieldref 1 19), (0, .nameAndType 20 21), (0, u "COMPACT_STRINGS"), (0, u "Z"), (0, .fieldref 10 23), (0, .nameAndType 24 25), (0, u "coder"), (0, u "B"), (6, .methodref 1 33), (0, .nameAndType 34 35), (0, u "length"), (0, u "()I"), (4, .methodref 1 41), (0, .nameAndType 24 42), (0, u "()B"), (2, u "append"), (0, u "(Ljava/lang/String;)Ljava/lang/AbstractStringBuilder;"), (1, .class_ 49), (0, u "java/lang/CharSequence"), (19, u "(Ljava/lang/String;)V"), (5, u "maybeLatin1"), (3, .fieldref 10 80), (0, .nameAndType 81 82), (0, u "count"), (0, u "I"), (2, u "isLatin1"), (0, u "()Z"), (13, .methodref 10 101), (0, .nameAndType 102 103), (0, u "ensureCapacityInternal"), (0, u "(I)V"), (104, .methodref 10 209), (0, .nameAndType 210 211), (0, u "putStringAt"), (0, u "(ILjava/lang/String;)V"), (5, u "inflateIfNeededFor"), (2, .nameAndType 221 222), (0, u "getBytes"), (0, u "([BIB)V"), (174, .methodref 10 398), (0, .nameAndType 217 69), (0, .methodref 1 220), (3, u "()[B"), (40, .class_ 445), (0, u "java/lang/Appendable"), (106, u "getValue")] 56

def k11m0 : Method := { name := "<init>", desc := "()V", sig := { parameters := [], returnType := none }, accessFlags := 0, code := none }
def k11c1 : Code := { maxStack := 2, maxLocals := 2, code := jdk_68_method_2_code, exceptionTable := #[], attributes := #[] }
def k11m1 : Method := { name := "<init>", desc := "(I)V", sig := { parameters := [.int], returnType := none }, accessFlags := 0, code := some k11c1 }
def k11c2 : Code := { maxStack := 1, maxLocals := 1, code := jdk_68_method_6_code, exceptionTable := #[], attributes := #[] }
def k11m2 : Method := { name := "length", desc := "()I", sig := { parameters := [], returnType := some .int }, accessFlags := 1, code := some k11c2 }
def k11c3 : Code := { maxStack := 4, maxLocals := 3, code := jdk_68_method_9_code, exceptionTable := #[], attributes := #[] }
def k11m3 : Method := { name := "ensureCapacityInternal", desc := "(I)V", sig := { parameters := [.int], returnType := none }, accessFlags := 2, code := some k11c3 }
def k11c4 : Code := { maxStack := 3, maxLocals := 3, code := jdk_68_method_22_code, exceptionTable := #[], attributes := #[] }
def k11m4 : Method := { name := "append", desc := "(Ljava/lang/String;)Ljava/lang/AbstractStringBuilder;", sig := { parameters := [(.object "java/lang/String")], returnType := some (.object "java/lang/AbstractStringBuilder") }, accessFlags := 1, code := some k11c4 }
def k11c5 : Code := { maxStack := 1, maxLocals := 1, code := jdk_68_method_64_code, exceptionTable := #[], attributes := #[] }
def k11m5 : Method := { name := "getValue", desc := "()[B", sig := { parameters := [], returnType := some (.array .byte) }, accessFlags := 16, code := some k11c5 }
def k11c6 : Code := { maxStack := 1, maxLocals := 1, code := jdk_68_method_68_code, exceptionTable := #[], attributes := #[] }
def k11m6 : Method := { name := "isLatin1", desc := "()Z", sig := { parameters := [], returnType := some .boolean }, accessFlags := 16, code := some k11c6 }
def k11c7 : Code := { maxStack := 2, maxLocals := 2, code := jdk_68_method_71_code, exceptionTable := #[], attributes := #[] }
def k11m7 : Method := { name := "inflateIfNeededFor", desc := "(Ljava/lang/String;)V", sig := { parameters := [(.object "java/lang/String")], returnType := none }, accessFlags := 2, code := some k11c7 }
def k11c8 : Code := { maxStack := 4, maxLocals := 3, code := jdk_68_method_73_code, exceptionTable := #[], attributes := #[] }
def k11m8 : Method := { name := "putStringAt", desc := "(ILjava/lang/String;)V", sig := { parameters := [.int, (.object "java/lang/String")], returnType := none }, accessFlags := 2, code := some k11c8 }
/-- java/lang/AbstractStringBuilder -/
def k11 : Class := { plain "java/lang/AbstractStringBuilder" (some 0) with
  accessFlags := 1056
  interfaces := #[10, 4]
  cf := some (fileOf pool11 10 #[] #[{ accessFlags := 0, nameIndex := 7, descriptorIndex := 8, attributes := #[] }, { accessFlags := 0, nameIndex := 7, descriptorIndex := 103, attributes := #[] }, { accessFlags := 1, nameIndex := 34, descriptorIndex := 35, attributes := #[] }, { accessFlags := 2, nameIndex := 102, descriptorIndex := 103, attributes := #[] }, { accessFlags := 1, nameIndex := 45, descriptorIndex := 46, attributes := #[] }, { accessFlags := 16, nameIndex := 552, descriptorIndex := 403, attributes := #[] }, { accessFlags := 16, nameIndex := 85, descriptorIndex := 86, attributes := #[] }, { accessFlags := 2, nameIndex := 217, descriptorIndex := 69, attributes := #[] }, { accessFlags := 2, nameIndex := 210, descriptorIndex := 211, attributes := #[] }] 1056 4 #[444, 48] #[{ accessFlags := 0, nameIndex := 17, descriptorIndex := 14, attributes := #[] }, { accessFlags := 0, nameIndex := 24, descriptorIndex := 25, attributes := #[] }, { accessFlags := 0, nameIndex := 75, descriptorIndex := 21, attributes := #[] }, { accessFlags := 0, nameIndex := 81, descriptorIndex := 82, attributes := #[] }, { accessFlags := 26, nameIndex := 13, descriptorIndex := 14, attributes := #[] }])
  fields := #[{ name := "value", type := (.array .byte), accessFlags := 0, slot := 0, constantValue := 0 }, { name := "coder", type := .byte, accessFlags := 0, slot := 1, constantValue := 0 }, { name := "maybeLatin1", type := .boolean, accessFlags := 0, slot := 2, constantValue := 0 }, { name := "count", type := .int, accessFlags := 0, slot := 3, constantValue := 0 }, { name := "EMPTYVALUE", type := (.array .byte), accessFlags := 26, slot := 0, constantValue := 0 }]
  methods := #[k11m0, k11m1, k11m2, k11m3, k11m4, k11m5, k11m6, k11m7, k11m8]
  instanceTypes := #[(.array .byte), .byte, .boolean, .int]
  staticTypes := #[(.array .byte)]
  resolved := Array.replicate 609 none
  statics := none }

def pool12 : Array CpInfo := pool [(1, .methodref 2 3), (0, .class_ 4), (0, .nameAndType 5 6), (0, u "java/lang/AbstractStringBuilder"), (0, u "<init>"), (0, u "(I)V"), (11, .class_ 20), (1, u "java/lang/String"), (3, .class_ 26), (1, u "java/lang/StringBuilder"), (0, u "append"), (0, u "(Ljava/lang/String;)Ljava/lang/StringBuilder;"), (0, .methodref 2 30), (0, .nameAndType 27 31), (0, u "(Ljava/lang/String;)Ljava/lang/AbstractStringBuilder;"), (105, .methodref 18 138), (0, .nameAndType 5 139), (0, u "(Ljava/lang/StringBuilder;)V"), (5, u "()V"), (10, u "()I"), (186, .methodref 2 344), (0, .nameAndType 345 156), (0, u "length"), (3, .class_ 350), (0, u "java/lang/Appendable"), (0, .class_ 352), (0, u "java/io/Serializable"), (0, .class_ 354), (0, u "java/lang/Comparable"), (0, .class_ 356), (0, u "java/lang/CharSequence"), (0, u "serialVersionUID"), (0, u "J"), (40, u "toString"), (0, u "()Ljava/lang/String;")] 21

def k12c0 : Code := { maxStack := 2, maxLocals := 1, code := jdk_67_method_1_code, exceptionTable := #[], attributes := #[] }
def k12m0 : Method := { name := "<init>", desc := "()V", sig := { parameters := [], returnType := none }, accessFlags := 1, code := some k12c0 }
def k12c1 : Code := { maxStack := 2, maxLocals := 2, code := jdk_67_method_7_code, exceptionTable := #[], attributes := #[] }
def k12m1 : Method := { name := "append", desc := "(Ljava/lang/String;)Ljava/lang/StringBuilder;", sig := { parameters := [(.object "java/lang/String")], returnType := some (.object "java/lang/StringBuilder") }, accessFlags := 1, code := some k12c1 }
def k12c2 : Code := { maxStack := 3, maxLocals := 1, code := jdk_67_method_42_code, exceptionTable := #[], attributes := #[] }
def k12m2 : Method := { name := "toString", desc := "()Ljava/lang/String;", sig := { parameters := [], returnType := some (.object "java/lang/String") }, accessFlags := 1, code := some k12c2 }
def k12c3 : Code := { maxStack := 1, maxLocals := 1, code := jdk_67_method_93_code, exceptionTable := #[], attributes := #[] }
def k12m3 : Method := { name := "length", desc := "()I", sig := { parameters := [], returnType := some .int }, accessFlags := 4161, code := some k12c3 }
/-- java/lang/StringBuilder -/
def k12 : Class := { plain "java/lang/StringBuilder" (some 11) with
  accessFlags := 49
  interfaces := #[10, 2, 3, 4]
  cf := some (fileOf pool12 24 #[] #[{ accessFlags := 1, nameIndex := 5, descriptorIndex := 145, attributes := #[] }, { accessFlags := 1, nameIndex := 27, descriptorIndex := 28, attributes := #[] }, { accessFlags := 1, nameIndex := 399, descriptorIndex := 400, attributes := #[] }, { accessFlags := 4161, nameIndex := 345, descriptorIndex := 156, attributes := #[] }] 49 2 #[349, 351, 353, 355] #[{ accessFlags := 24, nameIndex := 357, descriptorIndex := 358, attributes := #[] }])
  fields := #[{ name := "serialVersionUID", type := .long, accessFlags := 24, slot := 0, constantValue := 0 }]
  methods := #[k12m0, k12m1, k12m2, k12m3]
  instanceTypes := #[(.array .byte), .byte, .boolean, .int]
  staticTypes := #[.long]
  resolved := Array.replicate 422 none
  statics := none }

def pool13 : Array CpInfo := pool [(2, .class_ 4), (1, u "java/lang/Object"), (0, u "<init>"), (0, u "()V"), (1, .class_ 10), (1, u "java/lang/System"), (0, u "allowSecurityManager"), (0, u "I"), (16, u "cons"), (0, u "Ljava/io/Console;"), (77, .class_ 110), (1, u "java/lang/System$CallersHolder"), (43, u "initialErrStream"), (0, u "Ljava/io/PrintStream;"), (19, u "security"), (0, u "Ljava/lang/SecurityManager;"), (31, .class_ 209), (0, u "java/lang/System$1"), (7, u "props"), (0, u "Ljava/util/Properties;"), (2, u "lineSeparator"), (0, u "Ljava/lang/String;"), (96, .class_ 321), (1, u "java/lang/System$LoggerFinder"), (5, .class_ 328), (0, u "java/lang/System$Logger"), (67, u "err"), (2, u "out"), (91, u "notSupportedJnuEncoding"), (15, u "in"), (17, u "initialIn"), (0, u "Ljava/io/InputStream;"), (35, u "bootLayer"), (0, u "Ljava/lang/ModuleLayer;"), (99, .class_ 664), (0, u "java/lang/System$2"), (9, u "NEVER"), (2, u "MAYBE"), (49, u "arraycopy"), (0, u "(Ljava/lang/Object;ILjava/lang/Object;II)V"), (72, .class_ 802), (0, u "java/lang/System$Logger$Level")] 31

def k13m0 : Method := { name := "<init>", desc := "()V", sig := { parameters := [], returnType := none }, accessFlags := 2, code := none }
def k13m1 : Method := { name := "arraycopy", desc := "(Ljava/lang/Object;ILjava/lang/Object;II)V", sig := { parameters := [(.object "java/lang/Object"), .int, (.object "java/lang/Object"), .int, .int], returnType := none }, accessFlags := 265, code := none }
/-- java/lang/System -/
def k13 : Class := { plain "java/lang/System" (some 0) with
  accessFlags := 49
  interfaces := #[]
  cf := some (fileOf pool13 8 #[.nestMembers #[319, 327, 801, 108, 663, 208]] #[{ accessFlags := 2, nameIndex := 5, descriptorIndex := 6, attributes := #[] }, { accessFlags := 265, nameIndex := 727, descriptorIndex := 728, attributes := #[] }] 49 2 #[] #[{ accessFlags := 25, nameIndex := 507, descriptorIndex := 526, attributes := #[] }, { accessFlags := 25, nameIndex := 399, descriptorIndex := 155, attributes := #[] }, { accessFlags := 25, nameIndex := 396, descriptorIndex := 155, attributes := #[] }, { accessFlags := 10, nameIndex := 525, descriptorIndex := 526, attributes := #[] }, { accessFlags := 26, nameIndex := 674, descriptorIndex := 12, attributes := #[] }, { accessFlags := 26, nameIndex := 677, descriptorIndex := 12, attributes := #[] }, { accessFlags := 10, nameIndex := 11, descriptorIndex := 12, attributes := #[] }, { accessFlags := 74, nameIndex := 175, descriptorIndex := 176, attributes := #[] }, { accessFlags := 10, nameIndex := 491, descriptorIndex := 222, attributes := #[] }, { accessFlags := 74, nameIndex := 29, descriptorIndex := 30, attributes := #[] }, { accessFlags := 74, nameIndex := 154, descriptorIndex := 155, attributes := #[] }, { accessFlags := 10, nameIndex := 217, descriptorIndex := 218, attributes := #[] }, { accessFlags := 10, nameIndex := 221, descriptorIndex := 222, attributes := #[] }, { accessFlags := 8, nameIndex := 562, descriptorIndex := 563, attributes := #[] }])
  fields := #[{ name := "in", type := (.object "java/io/InputStream"), accessFlags := 25, slot := 0, constantValue := 0 }, { name := "out", type := (.object "java/io/PrintStream"), accessFlags := 25, slot := 1, constantValue := 0 }, { name := "err", type := (.object "java/io/PrintStream"), accessFlags := 25, slot := 2, constantValue := 0 }, { name := "initialIn", type := (.object "java/io/InputStream"), accessFlags := 10, slot := 3, constantValue := 0 }, { name := "NEVER", type := .int, accessFlags := 26, slot := 4, constantValue := 0 }, { name := "MAYBE", type := .int, accessFlags := 26, slot := 5, constantValue := 0 }, { name := "allowSecurityManager", type := .int, accessFlags := 10, slot := 6, constantValue := 0 }, { name := "security", type := (.object "java/lang/SecurityManager"), accessFlags := 74, slot := 7, constantValue := 0 }, { name := "notSupportedJnuEncoding", type := (.object "java/lang/String"), accessFlags := 10, slot := 8, constantValue := 0 }, { name := "cons", type := (.object "java/io/Console"), accessFlags := 74, slot := 9, constantValue := 0 }, { name := "initialErrStream", type := (.object "java/io/PrintStream"), accessFlags := 74, slot := 10, constantValue := 0 }, { name := "props", type := (.object "java/util/Properties"), accessFlags := 10, slot := 11, constantValue := 0 }, { name := "lineSeparator", type := (.object "java/lang/String"), accessFlags := 10, slot := 12, constantValue := 0 }, { name := "bootLayer", type := (.object "java/lang/ModuleLayer"), accessFlags := 8, slot := 13, constantValue := 0 }]
  methods := #[k13m0, k13m1]
  instanceTypes := #[]
  staticTypes := #[(.object "java/io/InputStream"), (.object "java/io/PrintStream"), (.object "java/io/PrintStream"), (.object "java/io/InputStream"), .int, .int, .int, (.object "java/lang/SecurityManager"), (.object "java/lang/String"), (.object "java/io/Console"), (.object "java/io/PrintStream"), (.object "java/util/Properties"), (.object "java/lang/String"), (.object "java/lang/ModuleLayer")]
  resolved := Array.replicate 834 none
  statics := none }

def pool14 : Array CpInfo := pool [(2, .class_ 4), (1, u "java/lang/Object"), (0, u "<init>"), (0, u "()V"), (7, .class_ 16), (1, u "java/util/Arrays"), (57, .class_ 76), (1, u "java/util/Arrays$NaturalOrder"), (36, .class_ 115), (1, u "java/util/Arrays$LegacyMergeSort"), (1, u "Z"), (21, u "copyOfRange"), (10, .methodref 151 152), (0, .class_ 153), (0, .nameAndType 154 155), (0, u "java/lang/System"), (0, u "arraycopy"), (0, u "(Ljava/lang/Object;ILjava/lang/Object;II)V"), (148, .methodref 305 306), (0, .class_ 307), (0, .nameAndType 308 309), (0, u "java/lang/Math"), (0, u "min"), (0, u "(II)I"), (29, .methodref 14 340), (0, .nameAndType 341 342), (0, u "copyOfRangeByte"), (0, u "([BII)[B"), (0, .methodref 14 344), (0, .nameAndType 345 346), (0, u "checkLength"), (0, u "(II)V"), (28, .class_ 376), (0, u "java/util/Arrays$ArrayList"), (68, u "$assertionsDisabled"), (269, u "MIN_ARRAY_SORT_GRAN"), (0, u "I"), (2, u "INSERTIONSORT_THRESHOLD"), (255, .class_ 976), (0, u "java/util/Arrays$ArrayItr")] 52

def k14m0 : Method := { name := "<init>", desc := "()V", sig := { parameters := [], returnType := none }, accessFlags := 2, code := none }
def k14c1 : Code := { maxStack := 4, maxLocals := 2, code := jdk_65_method_131_code, exceptionTable := #[], attributes := #[] }
def k14m1 : Method := { name := "checkLength", desc := "(II)V", sig := { parameters := [.int, .int], returnType := none }, accessFlags := 10, code := some k14c1 }
def k14c2 : Code := { maxStack := 3, maxLocals := 3, code := jdk_65_method_132_code, exceptionTable := #[], attributes := #[] }
def k14m2 : Method := { name := "copyOfRange", desc := "([BII)[B", sig := { parameters := [(.array .byte), .int, .int], returnType := some (.array .byte) }, accessFlags := 9, code := some k14c2 }
def k14c3 : Code := { maxStack := 6, maxLocals := 5, code := jdk_65_method_133_code, exceptionTable := #[], attributes := #[] }
def k14m3 : Method := { name := "copyOfRangeByte", desc := "([BII)[B", sig := { parameters := [(.array .byte), .int, .int], returnType := some (.array .byte) }, accessFlags := 10, code := some k14c3 }
/-- java/util/Arrays -/
def k14 : Class := { plain "java/util/Arrays" (some 0) with
  accessFlags := 49
  interfaces := #[]
  cf := some (fileOf pool14 14 #[.nestMembers #[975, 375, 113, 74]] #[{ accessFlags := 2, nameIndex := 5, descriptorIndex := 6, attributes := #[] }, { accessFlags := 10, nameIndex := 345, descriptorIndex := 346, attributes := #[] }, { accessFlags := 9, nameIndex := 139, descriptorIndex := 342, attributes := #[] }, { accessFlags := 10, nameIndex := 341, descriptorIndex := 342, attributes := #[] }] 49 2 #[] #[{ accessFlags := 26, nameIndex := 715, descriptorIndex := 716, attributes := #[] }, { accessFlags := 26, nameIndex := 719, descriptorIndex := 716, attributes := #[] }, { accessFlags := 4120, nameIndex := 445, descriptorIndex := 117, attributes := #[] }])
  fields := #[{ name := "MIN_ARRAY_SORT_GRAN", type := .int, accessFlags := 26, slot := 0, constantValue := 0 }, { name := "INSERTIONSORT_THRESHOLD", type := .int, accessFlags := 26, slot := 1, constantValue := 0 }, { name := "$assertionsDisabled", type := .boolean, accessFlags := 4120, slot := 2, constantValue := 0 }]
  methods := #[k14m0, k14m1, k14m2, k14m3]
  instanceTypes := #[]
  staticTypes := #[.int, .int, .boolean]
  resolved := Array.replicate 1029 none
  statics := none }

def pool15 : Array CpInfo := pool [(1, .class_ 2), (0, u "java/lang/Math"), (1, .class_ 6), (1, u "java/lang/Object"), (0, u "<init>"), (0, u "()V"), (89, .class_ 100), (1, u "java/lang/Math$RandomNumberGeneratorHolder"), (71, u "negativeZeroFloatBits"), (0, u "J"), (2, u "negativeZeroDoubleBits"), (24, u "min"), (43, u "$assertionsDisabled"), (0, u "Z"), (88, u "(II)I"), (2, u "twoToTheDoubleScaleDown"), (0, u "D"), (4, u "twoToTheDoubleScaleUp"), (9, u "E"), (3, u "PI"), (2, u "TAU"), (2, u "DEGREES_TO_RADIANS"), (0, u "RADIANS_TO_DEGREES")] 94

def k15m0 : Method := { name := "<init>", desc := "()V", sig := { parameters := [], returnType := none }, accessFlags := 2, code := none }
def k15c1 : Code := { maxStack := 2, maxLocals := 2, code := jdk_29_method_69_code, exceptionTable := #[], attributes := #[] }
def k15m1 : Method := { name := "min", desc := "(II)I", sig := { parameters := [.int, .int], returnType := some .int }, accessFlags := 9, code := some k15c1 }
/-- java/lang/Math -/
def k15 : Class := { plain "java/lang/Math" (some 0) with
  accessFlags := 49
  interfaces := #[]
  cf := some (fileOf pool15 1 #[.nestMembers #[98]] #[{ accessFlags := 2, nameIndex := 7, descriptorIndex := 8, attributes := #[] }, { accessFlags := 9, nameIndex := 201, descriptorIndex := 335, attributes := #[] }] 49 4 #[] #[{ accessFlags := 25, nameIndex := 354, descriptorIndex := 339, attributes := #[] }, { accessFlags := 25, nameIndex := 358, descriptorIndex := 339, attributes := #[] }, { accessFlags := 25, nameIndex := 361, descriptorIndex := 339, attributes := #[] }, { accessFlags := 26, nameIndex := 364, descriptorIndex := 339, attributes := #[] }, { accessFlags := 26, nameIndex := 365, descriptorIndex := 339, attributes := #[] }, { accessFlags := 26, nameIndex := 172, descriptorIndex := 173, attributes := #[] }, { accessFlags := 26, nameIndex := 176, descriptorIndex := 173, attributes := #[] }, { accessFlags := 8, nameIndex := 344, descriptorIndex := 339, attributes := #[] }, { accessFlags := 8, nameIndex := 338, descriptorIndex := 339, attributes := #[] }, { accessFlags := 4120, nameIndex := 245, descriptorIndex := 246, attributes := #[] }])
  fields := #[{ name := "E", type := .double, accessFlags := 25, slot := 0, constantValue := 0 }, { name := "PI", type := .double, accessFlags := 25, slot := 1, constantValue := 0 }, { name := "TAU", type := .double, accessFlags := 25, slot := 2, constantValue := 0 }, { name := "DEGREES_TO_RADIANS", type := .double, accessFlags := 26, slot := 3, constantValue := 0 }, { name := "RADIANS_TO_DEGREES", type := .double, accessFlags := 26, slot := 4, constantValue := 0 }, { name := "negativeZeroFloatBits", type := .long, accessFlags := 26, slot := 5, constantValue := 0 }, { name := "negativeZeroDoubleBits", type := .long, accessFlags := 26, slot := 6, constantValue := 0 }, { name := "twoToTheDoubleScaleUp", type := .double, accessFlags := 8, slot := 7, constantValue := 0 }, { name := "twoToTheDoubleScaleDown", type := .double, accessFlags := 8, slot := 8, constantValue := 0 }, { name := "$assertionsDisabled", type := .boolean, accessFlags := 4120, slot := 9, constantValue := 0 }]
  methods := #[k15m0, k15m1]
  instanceTypes := #[]
  staticTypes := #[.double, .double, .double, .double, .double, .long, .long, .double, .double, .boolean]
  resolved := Array.replicate 460 none
  statics := none }

def pool16 : Array CpInfo := pool [(2, .class_ 4), (1, u "java/lang/Object"), (0, u "<init>"), (0, u "()V"), (17, .class_ 26), (1, u "jdk/internal/util/Preconditions"), (6, u "checkIndex"), (21, .class_ 56), (0, u "jdk/internal/util/Preconditions$4"), (57, .class_ 115), (0, u "jdk/internal/util/Preconditions$1"), (7, u "SIOOBE_FORMATTER"), (0, u "Ljava/util/function/BiFunction;"), (0, .class_ 126), (0, u "jdk/internal/util/Preconditions$2"), (3, u "AIOOBE_FORMATTER"), (0, .class_ 132), (0, u "jdk/internal/util/Preconditions$3"), (3, u "IOOBE_FORMATTER"), (41, u "(IILjava/util/function/BiFunction;)I")] 15

def k16m0 : Method := { name := "<init>", desc := "()V", sig := { parameters := [], returnType := none }, accessFlags := 1, code := none }
def k16c1 : Code := { maxStack := 3, maxLocals := 3, code := jdk_41_method_11_code, exceptionTable := #[], attributes := #[] }
def k16m1 : Method := { name := "checkIndex", desc := "(IILjava/util/function/BiFunction;)I", sig := { parameters := [.int, .int, (.object "java/util/function/BiFunction")], returnType := some .int }, accessFlags := 9, code := some k16c1 }
/-- jdk/internal/util/Preconditions -/
def k16 : Class := { plain "jdk/internal/util/Preconditions" (some 0) with
  accessFlags := 33
  interfaces := #[]
  cf := some (fileOf pool16 24 #[.nestMembers #[55, 131, 125, 114]] #[{ accessFlags := 1, nameIndex := 5, descriptorIndex := 6, attributes := #[] }, { accessFlags := 9, nameIndex := 33, descriptorIndex := 178, attributes := #[] }] 33 2 #[] #[{ accessFlags := 25, nameIndex := 123, descriptorIndex := 124, attributes := #[] }, { accessFlags := 25, nameIndex := 130, descriptorIndex := 124, attributes := #[] }, { accessFlags := 25, nameIndex := 136, descriptorIndex := 124, attributes := #[] }])
  fields := #[{ name := "SIOOBE_FORMATTER", type := (.object "java/util/function/BiFunction"), accessFlags := 25, slot := 0, constantValue := 0 }, { name := "AIOOBE_FORMATTER", type := (.object "java/util/function/BiFunction"), accessFlags := 25, slot := 1, constantValue := 0 }, { name := "IOOBE_FORMATTER", type := (.object "java/util/function/BiFunction"), accessFlags := 25, slot := 2, constantValue := 0 }]
  methods := #[k16m0, k16m1]
  instanceTypes := #[]
  staticTypes := #[(.object "java/util/function/BiFunction"), (.object "java/util/function/BiFunction"), (.object "java/util/function/BiFunction")]
  resolved := Array.replicate 194 none
  statics := some 1 }

def pool17 : Array CpInfo := pool [(6, .class_ 8), (1, u "java/lang/Object"), (0, u "<init>"), (0, u "()V"), (1, .class_ 14), (1, u "java/lang/StringUTF16"), (31, u "$assertionsDisabled"), (0, u "Z"), (13, u "HI_BYTE_SHIFT"), (0, u "I"), (2, u "LO_BYTE_SHIFT"), (49, .methodref 12 116), (0, .nameAndType 117 118), (0, u "compress"), (0, u "([CI[BII)I"), (3, u "([CII)[B"), (138, u "coderFromArrayLen"), (0, u "([BI)B"), (106, .class_ 371), (1, u "java/lang/StringUTF16$LinesSpliterator"), (58, u "MAX_LENGTH"), (196, .class_ 628), (0, u "java/lang/StringUTF16$CodePointsSpliterator"), (0, .class_ 630), (0, u "java/lang/StringUTF16$CharsSpliterator")] 4

def k17m0 : Method := { name := "<init>", desc := "()V", sig := { parameters := [], returnType := none }, accessFlags := 0, code := none }
def k17c1 : Code := { maxStack := 2, maxLocals := 2, code := jdk_52_method_15_code, exceptionTable := #[], attributes := #[] }
def k17m1 : Method := { name := "coderFromArrayLen", desc := "([BI)B", sig := { parameters := [(.array .byte), .int], returnType := some .byte }, accessFlags := 8, code := some k17c1 }
def k17c2 : Code := { maxStack := 5, maxLocals := 6, code := jdk_52_method_16_code, exceptionTable := #[], attributes := #[] }
def k17m2 : Method := { name := "compress", desc := "([CII)[B", sig := { parameters := [(.array .char), .int, .int], returnType := some (.array .byte) }, accessFlags := 9, code := some k17c2 }
def k17c3 : Code := { maxStack := 3, maxLocals := 7, code := jdk_52_method_21_code, exceptionTable := #[], attributes := #[] }
def k17m3 : Method := { name := "compress", desc := "([CI[BII)I", sig := { parameters := [(.array .char), .int, (.array .byte), .int, .int], returnType := some .int }, accessFlags := 9, code := some k17c3 }
/-- java/lang/StringUTF16 -/
def k17 : Class := { plain "java/lang/StringUTF16" (some 0) with
  accessFlags := 48
  interfaces := #[]
  cf := some (fileOf pool17 12 #[.nestMembers #[627, 629, 369]] #[{ accessFlags := 0, nameIndex := 9, descriptorIndex := 10, attributes := #[] }, { accessFlags := 8, nameIndex := 261, descriptorIndex := 262, attributes := #[] }, { accessFlags := 9, nameIndex := 117, descriptorIndex := 122, attributes := #[] }, { accessFlags := 9, nameIndex := 117, descriptorIndex := 118, attributes := #[] }] 48 6 #[] #[{ accessFlags := 26, nameIndex := 61, descriptorIndex := 62, attributes := #[] }, { accessFlags := 26, nameIndex := 65, descriptorIndex := 62, attributes := #[] }, { accessFlags := 24, nameIndex := 430, descriptorIndex := 62, attributes := #[] }, { accessFlags := 4120, nameIndex := 46, descriptorIndex := 47, attributes := #[] }])
  fields := #[{ name := "HI_BYTE_SHIFT", type := .int, accessFlags := 26, slot := 0, constantValue := 0 }, { name := "LO_BYTE_SHIFT", type := .int, accessFlags := 26, slot := 1, constantValue := 0 }, { name := "MAX_LENGTH", type := .int, accessFlags := 24, slot := 2, constantValue := 0 }, { name := "$assertionsDisabled", type := .boolean, accessFlags := 4120, slot := 3, constantValue := 0 }]
  methods := #[k17m0, k17m1, k17m2, k17m3]
  instanceTypes := #[]
  staticTypes := #[.int, .int, .int, .boolean]
  resolved := Array.replicate 635 none
  statics := none }

def pool18 : Array CpInfo := pool [(9, u "<init>"), (6, .class_ 18), (1, u "java/lang/Object"), (0, u "()V"), (1, .class_ 23), (1, u "jdk/internal/util/ArraysSupport"), (0, u "LOG2_ARRAY_LONG_INDEX_SCALE"), (0, u "I"), (2, u "U"), (0, u "Ljdk/internal/misc/Unsafe;"), (8, u "BIG_ENDIAN"), (0, u "Z"), (8, u "LOG2_BYTE_BIT_SIZE"), (4, u "LOG2_ARRAY_INT_INDEX_SCALE"), (54, u "JLA"), (0, u "Ljdk/internal/access/JavaLangAccess;"), (11, u "LOG2_ARRAY_BOOLEAN_INDEX_SCALE"), (9, u "LOG2_ARRAY_BYTE_INDEX_SCALE"), (5, u "LOG2_ARRAY_CHAR_INDEX_SCALE"), (5, u "LOG2_ARRAY_SHORT_INDEX_SCALE"), (18, u "LOG2_ARRAY_FLOAT_INDEX_SCALE"), (24, u "LOG2_ARRAY_DOUBLE_INDEX_SCALE"), (89, u "T_BOOLEAN"), (2, u "T_CHAR"), (1, u "T_FLOAT"), (1, u "T_DOUBLE"), (1, u "T_BYTE"), (1, u "T_SHORT"), (1, u "T_INT"), (1, u "T_LONG"), (1, u "SOFT_MAX_ARRAY_LENGTH")] 83

def k18m0 : Method := { name := "<init>", desc := "()V", sig := { parameters := [], returnType := none }, accessFlags := 2, code := none }
/-- jdk/internal/util/ArraysSupport -/
def k18 : Class := { plain "jdk/internal/util/ArraysSupport" (some 0) with
  accessFlags := 33
  interfaces := #[]
  cf := some (fileOf pool18 21 #[] #[{ accessFlags := 2, nameIndex := 9, descriptorIndex := 19, attributes := #[] }] 33 16 #[] #[{ accessFlags := 24, nameIndex := 28, descriptorIndex := 29, attributes := #[] }, { accessFlags := 26, nameIndex := 38, descriptorIndex := 39, attributes := #[] }, { accessFlags := 25, nameIndex := 121, descriptorIndex := 25, attributes := #[] }, { accessFlags := 25, nameIndex := 131, descriptorIndex := 25, attributes := #[] }, { accessFlags := 25, nameIndex := 137, descriptorIndex := 25, attributes := #[] }, { accessFlags := 25, nameIndex := 143, descriptorIndex := 25, attributes := #[] }, { accessFlags := 25, nameIndex := 53, descriptorIndex := 25, attributes := #[] }, { accessFlags := 25, nameIndex := 24, descriptorIndex := 25, attributes := #[] }, { accessFlags := 25, nameIndex := 162, descriptorIndex := 25, attributes := #[] }, { accessFlags := 25, nameIndex := 187, descriptorIndex := 25, attributes := #[] }, { accessFlags := 26, nameIndex := 48, descriptorIndex := 25, attributes := #[] }, { accessFlags := 25, nameIndex := 277, descriptorIndex := 25, attributes := #[] }, { accessFlags := 25, nameIndex := 280, descriptorIndex := 25, attributes := #[] }, { accessFlags := 25, nameIndex := 282, descriptorIndex := 25, attributes := #[] }, { accessFlags := 25, nameIndex := 284, descriptorIndex := 25, attributes := #[] }, { accessFlags := 25, nameIndex := 286, descriptorIndex := 25, attributes := #[] }, { accessFlags := 25, nameIndex := 288, descriptorIndex := 25, attributes := #[] }, { accessFlags := 25, nameIndex := 290, descriptorIndex := 25, attributes := #[] }, { accessFlags := 25, nameIndex := 292, descriptorIndex := 25, attributes := #[] }, { accessFlags := 26, nameIndex := 108, descriptorIndex := 109, attributes := #[] }, { accessFlags := 25, nameIndex := 294, descriptorIndex := 25, attributes := #[] }])
  fields := #[{ name := "U", type := (.object "jdk/internal/misc/Unsafe"), accessFlags := 24, slot := 0, constantValue := 0 }, { name := "BIG_ENDIAN", type := .boolean, accessFlags := 26, slot := 1, constantValue := 0 }, { name := "LOG2_ARRAY_BOOLEAN_INDEX_SCALE", type := .int, accessFlags := 25, slot := 2, constantValue := 0 }, { name := "LOG2_ARRAY_BYTE_INDEX_SCALE", type := .int, accessFlags := 25, slot := 3, constantValue := 0 }, { name := "LOG2_ARRAY_CHAR_INDEX_SCALE", type := .int, accessFlags := 25, slot := 4, constantValue := 0 }, { name := "LOG2_ARRAY_SHORT_INDEX_SCALE", type := .int, accessFlags := 25, slot := 5, constantValue := 0 }, { name := "LOG2_ARRAY_INT_INDEX_SCALE", type := .int, accessFlags := 25, slot := 6, constantValue := 0 }, { name := "LOG2_ARRAY_LONG_INDEX_SCALE", type := .int, accessFlags := 25, slot := 7, constantValue := 0 }, { name := "LOG2_ARRAY_FLOAT_INDEX_SCALE", type := .int, accessFlags := 25, slot := 8, constantValue := 0 }, { name := "LOG2_ARRAY_DOUBLE_INDEX_SCALE", type := .int, accessFlags := 25, slot := 9, constantValue := 0 }, { name := "LOG2_BYTE_BIT_SIZE", type := .int, accessFlags := 26, slot := 10, constantValue := 0 }, { name := "T_BOOLEAN", type := .int, accessFlags := 25, slot := 11, constantValue := 0 }, { name := "T_CHAR", type := .int, accessFlags := 25, slot := 12, constantValue := 0 }, { name := "T_FLOAT", type := .int, accessFlags := 25, slot := 13, constantValue := 0 }, { name := "T_DOUBLE", type := .int, accessFlags := 25, slot := 14, constantValue := 0 }, { name := "T_BYTE", type := .int, accessFlags := 25, slot := 15, constantValue := 0 }, { name := "T_SHORT", type := .int, accessFlags := 25, slot := 16, constantValue := 0 }, { name := "T_INT", type := .int, accessFlags := 25, slot := 17, constantValue := 0 }, { name := "T_LONG", type := .int, accessFlags := 25, slot := 18, constantValue := 0 }, { name := "JLA", type := (.object "jdk/internal/access/JavaLangAccess"), accessFlags := 26, slot := 19, constantValue := 0 }, { name := "SOFT_MAX_ARRAY_LENGTH", type := .int, accessFlags := 25, slot := 20, constantValue := 0 }]
  methods := #[k18m0]
  instanceTypes := #[]
  staticTypes := #[(.object "jdk/internal/misc/Unsafe"), .boolean, .int, .int, .int, .int, .int, .int, .int, .int, .int, .int, .int, .int, .int, .int, .int, .int, .int, (.object "jdk/internal/access/JavaLangAccess"), .int]
  resolved := Array.replicate 378 none
  statics := none }

def pool19 : Array CpInfo := pool [(1, u "java/lang/Cloneable"), (0, .class_ 1), (0, u "java/lang/Object"), (0, .class_ 3)] 3

/-- java/lang/Cloneable -/
def k19 : Class := { plain "java/lang/Cloneable" (some 0) with
  accessFlags := 1537
  interfaces := #[]
  cf := some (fileOf pool19 2 #[] #[] 1537 4 #[] #[])
  fields := #[]
  methods := #[]
  instanceTypes := #[]
  staticTypes := #[]
  resolved := Array.replicate 8 none
  statics := none }

/-- the primitive byte -/
def k20 : Class := { plain "byte" none with kind := .primitive 'B', accessFlags := 0x411 }
/-- [B -/
def k21 : Class := { plain "[B" (some 0) with kind := .array 20 .byte, interfaces := #[19, 2], accessFlags := 1041 }

/-- the primitive char -/
def k22 : Class := { plain "char" none with kind := .primitive 'C', accessFlags := 0x411 }
/-- [C -/
def k23 : Class := { plain "[C" (some 0) with kind := .array 22 .char, interfaces := #[19, 2], accessFlags := 1041 }

/-- the primitive int -/
def k24 : Class := { plain "int" none with kind := .primitive 'I', accessFlags := 0x411 }
/-- [I -/
def k25 : Class := { plain "[I" (some 0) with kind := .array 24 .int, interfaces := #[19, 2], accessFlags := 1041 }

def heap : Heap := #[{ cls := 7, slots := #[.long 0, .int 1, .null, .int 0, .null, .int 0, .int 0], vm := .statics 7 },
  { cls := 16, slots := #[.null, .null, .null], vm := .statics 16 }]
def classes : Array Class := #[k0, k1, k2, k3, k4, k5, k6, k7, k8, k9, k10, k11, k12, k13, k14, k15, k16, k17, k18, k19, k20, k21, k22, k23, k24, k25]
def interned : List (Array UInt16 × Addr) := []
def slotsUsed : Nat := 10
def theMethod : MethodId := ⟨1, 1⟩
def args0 : Array Value := #[.int 5, .int 5, .int 5]
def aboutOver (below : List Frame) : State where
  vm := { classes := classes, interned := interned.toArray }
  heap := heap
  slotsUsed := slotsUsed
  threads := #[{ frames := .invoking theMethod args0 :: below }]
def below0 : List Frame := [.native { method := ⟨0, 0⟩, args := #[] }]
def about1 : State := aboutOver below0
def p0 : Program := .bare "" "" ""
def e0 : Env := launch0.env 0 0 0
theorem w_frames : about1.frames = Frame.invoking theMethod args0 :: below0 := rfl
set_option maxRecDepth 65536 in
theorem w_args : argsFit about1.vm theMethod args0 = true := by decide +kernel
set_option maxRecDepth 65536 in
theorem w_heap : heapFits about1 = true := by decide +kernel
set_option maxRecDepth 65536 in
theorem w_runnable : about1.curStatus? = some .runnable := by decide +kernel
set_option maxRecDepth 65536 in
theorem w_alone : about1.alone = true := by decide +kernel
set_option maxRecDepth 65536 in
theorem w_named : about1.methodNamed? x = some theMethod := by decide +kernel
set_option maxRecDepth 65536 in
theorem w_hears : about1.hears theMethod below0 = true := by decide +kernel
set_option maxRecDepth 65536 in
theorem w_ripe : about1.ripe theMethod args0 below0 = true := by decide +kernel
theorem w_running : about1.status = .running := rfl
set_option maxRecDepth 65536 in
theorem w_room : about1.hasRoom e0.platform room_1 = true :=
  launch0.hasRoom_least _ room_1 (by decide +kernel) (by decide +kernel) (by decide +kernel) (by decide +kernel) (by decide +kernel) (by decide +kernel)
theorem allAtoms_all (ts : List Jvm.Cond) (a : Array Jvm.Value) (st : Jvm.State) : (allAtoms ts).before a st = ts.all (fun c => c.before a st) := by
  induction ts with
  | nil => rfl
  | cons c t ih =>
    show (Jvm.Cond.and c (allAtoms t)).before a st = _
    rw [Jvm.Cond.before_and, ih, List.all_cons]
def words1 : List Jvm.Cond := Jvm.Cond.code x code maxLocals ret :: tables_1
/-- a 'code' word, met by the world's own term for the bytes: nothing is compared byte by byte -/
theorem code_word {y : MethodName} {bytes : ByteArray} {mx : Nat} {rt : Option FieldType} {a : Array Value} {s : State} {m : MethodId} {meth : Method} {c : Code} (h1 : s.methodNamed? y = some m) (h2 : s.vm.method? m = some meth) (h3 : meth.code = some c) (h4 : c.code = bytes)
    (h5 : (c.maxLocals == mx && c.exceptionTable.isEmpty && decide (c.maxStack ≤ mostOperands) && decide (meth.sig.returnType = rt) && !meth.locks && decide (parseMethodDescriptor y.desc = some meth.sig)) = true) : (Jvm.Cond.code y bytes mx rt).before a s = true := by
  simp only [Bool.and_eq_true, beq_iff_eq, Bool.not_eq_true', decide_eq_true_eq] at h5
  obtain ⟨⟨⟨⟨⟨g1, g2⟩, g3⟩, g4⟩, g5⟩, g6⟩ := h5
  simp [Cond.before, Cond.holds, Cond.value, h1, h2, h3, h4, g1, g2, g3, g4, g5, g6]
def isCode : Jvm.Cond → Bool
  | .code _ _ _ _ => true
  | _ => false
theorem all_split {L : List Jvm.Cond} {P : Jvm.Cond → Bool} (h1 : L.all (fun c => isCode c || P c) = true) (h2 : ∀ c ∈ L.filter isCode, P c = true) : L.all P = true := by
  refine List.all_eq_true.mpr fun c hc => ?_
  have h := List.all_eq_true.mp h1 c hc
  rcases Bool.eq_false_or_eq_true (isCode c) with hi | hi
  · exact h2 c (List.mem_filter.mpr ⟨hc, hi⟩)
  · simpa [hi] using h
set_option maxRecDepth 65536 in
theorem w_c0 : (Jvm.Cond.code x code maxLocals ret).before args0 about1 = true := code_word (m := ⟨1, 1⟩) (meth := k1m1) (c := k1c1) (by decide +kernel) rfl rfl rfl (by decide +kernel)
set_option maxRecDepth 65536 in
theorem w_c1 : (Jvm.Cond.code ({ cls := "com/example/mapwright/mapwright/config/MapperReaderQualifiedPinLaw", name := "str", desc := "(II)Ljava/lang/String;" } : Jvm.MethodName) method_4_code (2 : Nat) (Option.some (Jvm.ClassFile.FieldType.object "java/lang/String"))).before args0 about1 = true := code_word (m := ⟨1, 3⟩) (meth := k1m3) (c := k1c3) (by decide +kernel) rfl rfl rfl (by decide +kernel)
set_option maxRecDepth 65536 in
theorem w_c2 : (Jvm.Cond.code ({ cls := "java/lang/String", name := "<init>", desc := "([C)V" } : Jvm.MethodName) jdk_42_method_3_code (2 : Nat) (Option.none : Option Jvm.ClassFile.FieldType)).before args0 about1 = true := code_word (m := ⟨7, 1⟩) (meth := k7m1) (c := k7c1) (by decide +kernel) rfl rfl rfl (by decide +kernel)
set_option maxRecDepth 65536 in
theorem w_c3 : (Jvm.Cond.code ({ cls := "java/lang/String", name := "<init>", desc := "([CIILjava/lang/Void;)V" } : Jvm.MethodName) jdk_42_method_149_code (6 : Nat) (Option.none : Option Jvm.ClassFile.FieldType)).before args0 about1 = true := code_word (m := ⟨7, 10⟩) (meth := k7m10) (c := k7c10) (by decide +kernel) rfl rfl rfl (by decide +kernel)
set_option maxRecDepth 65536 in
theorem w_c4 : (Jvm.Cond.code ({ cls := "java/lang/Object", name := "<init>", desc := "()V" } : Jvm.MethodName) object_method_1_code (1 : Nat) (Option.none : Option Jvm.ClassFile.FieldType)).before args0 about1 = true := code_word (m := ⟨0, 0⟩) (meth := k0m0) (c := k0c0) (by decide +kernel) rfl rfl rfl (by decide +kernel)
set_option maxRecDepth 65536 in
theorem w_c5 : (Jvm.Cond.code ({ cls := "com/example/mapwright/mapwright/config/MapperReader", name := "qualified", desc := "(Ljava/lang/String;Ljava/lang/String;)Ljava/lang/String;" } : Jvm.MethodName) prog_26_method_11_code (2 : Nat) (Option.some (Jvm.ClassFile.FieldType.object "java/lang/String"))).before args0 about1 = true := code_word (m := ⟨8, 0⟩) (meth := k8m0) (c := k8c0) (by decide +kernel) rfl rfl rfl (by decide +kernel)
set_option maxRecDepth 65536 in
theorem w_c6 : (Jvm.Cond.code ({ cls := "java/lang/String", name := "contains", desc := "(Ljava/lang/CharSequence;)Z" } : Jvm.MethodName) jdk_42_method_97_code (2 : Nat) (Option.some Jvm.ClassFile.FieldType.boolean)).before args0 about1 = true := code_word (m := ⟨7, 7⟩) (meth := k7m7) (c := k7c7) (by decide +kernel) rfl rfl rfl (by decide +kernel)
set_option maxRecDepth 65536 in
theorem w_c7 : (Jvm.Cond.code ({ cls := "java/lang/String", name := "toString", desc := "()Ljava/lang/String;" } : Jvm.MethodName) jdk_42_method_126_code (1 : Nat) (Option.some (Jvm.ClassFile.FieldType.object "java/lang/String"))).before args0 about1 = true := code_word (m := ⟨7, 8⟩) (meth := k7m8) (c := k7c8) (by decide +kernel) rfl rfl rfl (by decide +kernel)
set_option maxRecDepth 65536 in
theorem w_c8 : (Jvm.Cond.code ({ cls := "java/lang/String", name := "indexOf", desc := "(Ljava/lang/String;)I" } : Jvm.MethodName) jdk_42_method_84_code (3 : Nat) (Option.some Jvm.ClassFile.FieldType.int)).before args0 about1 = true := code_word (m := ⟨7, 6⟩) (meth := k7m6) (c := k7c6) (by decide +kernel) rfl rfl rfl (by decide +kernel)
set_option maxRecDepth 65536 in
theorem w_c9 : (Jvm.Cond.code ({ cls := "java/lang/String", name := "coder", desc := "()B" } : Jvm.MethodName) jdk_42_method_152_code (1 : Nat) (Option.some Jvm.ClassFile.FieldType.byte)).before args0 about1 = true := code_word (m := ⟨7, 12⟩) (meth := k7m12) (c := k7c12) (by decide +kernel) rfl rfl rfl (by decide +kernel)
set_option maxRecDepth 65536 in
theorem w_c10 : (Jvm.Cond.code ({ cls := "java/lang/String", name := "isLatin1", desc := "()Z" } : Jvm.MethodName) jdk_42_method_154_code (1 : Nat) (Option.some Jvm.ClassFile.FieldType.boolean)).before args0 about1 = true := code_word (m := ⟨7, 13⟩) (meth := k7m13) (c := k7c13) (by decide +kernel) rfl rfl rfl (by decide +kernel)
set_option maxRecDepth 65536 in
theorem w_c11 : (Jvm.Cond.code ({ cls := "java/lang/StringLatin1", name := "indexOf", desc := "([B[B)I" } : Jvm.MethodName) jdk_43_method_24_code (2 : Nat) (Option.some Jvm.ClassFile.FieldType.int)).before args0 about1 = true := code_word (m := ⟨9, 2⟩) (meth := k9m2) (c := k9c2) (by decide +kernel) rfl rfl rfl (by decide +kernel)
set_option maxRecDepth 65536 in
theorem w_c12 : (Jvm.Cond.code ({ cls := "java/lang/StringBuilder", name := "<init>", desc := "()V" } : Jvm.MethodName) jdk_67_method_1_code (1 : Nat) (Option.none : Option Jvm.ClassFile.FieldType)).before args0 about1 = true := code_word (m := ⟨12, 0⟩) (meth := k12m0) (c := k12c0) (by decide +kernel) rfl rfl rfl (by decide +kernel)
set_option maxRecDepth 65536 in
theorem w_c13 : (Jvm.Cond.code ({ cls := "java/lang/AbstractStringBuilder", name := "<init>", desc := "(I)V" } : Jvm.MethodName) jdk_68_method_2_code (2 : Nat) (Option.none : Option Jvm.ClassFile.FieldType)).before args0 about1 = true := code_word (m := ⟨11, 1⟩) (meth := k11m1) (c := k11c1) (by decide +kernel) rfl rfl rfl (by decide +kernel)
set_option maxRecDepth 65536 in
theorem w_c14 : (Jvm.Cond.code ({ cls := "java/lang/StringBuilder", name := "append", desc := "(Ljava/lang/String;)Ljava/lang/StringBuilder;" } : Jvm.MethodName) jdk_67_method_7_code (2 : Nat) (Option.some (Jvm.ClassFile.FieldType.object "java/lang/StringBuilder"))).before args0 about1 = true := code_word (m := ⟨12, 1⟩) (meth := k12m1) (c := k12c1) (by decide +kernel) rfl rfl rfl (by decide +kernel)
set_option maxRecDepth 65536 in
theorem w_c15 : (Jvm.Cond.code ({ cls := "java/lang/AbstractStringBuilder", name := "append", desc := "(Ljava/lang/String;)Ljava/lang/AbstractStringBuilder;" } : Jvm.MethodName) jdk_68_method_22_code (3 : Nat) (Option.some (Jvm.ClassFile.FieldType.object "java/lang/AbstractStringBuilder"))).before args0 about1 = true := code_word (m := ⟨11, 4⟩) (meth := k11m4) (c := k11c4) (by decide +kernel) rfl rfl rfl (by decide +kernel)
set_option maxRecDepth 65536 in
theorem w_c16 : (Jvm.Cond.code ({ cls := "java/lang/String", name := "length", desc := "()I" } : Jvm.MethodName) jdk_42_method_54_code (1 : Nat) (Option.some Jvm.ClassFile.FieldType.int)).before args0 about1 = true := code_word (m := ⟨7, 3⟩) (meth := k7m3) (c := k7c3) (by decide +kernel) rfl rfl rfl (by decide +kernel)
set_option maxRecDepth 65536 in
theorem w_c17 : (Jvm.Cond.code ({ cls := "java/lang/AbstractStringBuilder", name := "ensureCapacityInternal", desc := "(I)V" } : Jvm.MethodName) jdk_68_method_9_code (3 : Nat) (Option.none : Option Jvm.ClassFile.FieldType)).before args0 about1 = true := code_word (m := ⟨11, 3⟩) (meth := k11m3) (c := k11c3) (by decide +kernel) rfl rfl rfl (by decide +kernel)
set_option maxRecDepth 65536 in
theorem w_c18 : (Jvm.Cond.code ({ cls := "java/lang/AbstractStringBuilder", name := "putStringAt", desc := "(ILjava/lang/String;)V" } : Jvm.MethodName) jdk_68_method_73_code (3 : Nat) (Option.none : Option Jvm.ClassFile.FieldType)).before args0 about1 = true := code_word (m := ⟨11, 8⟩) (meth := k11m8) (c := k11c8) (by decide +kernel) rfl rfl rfl (by decide +kernel)
set_option maxRecDepth 65536 in
theorem w_c19 : (Jvm.Cond.code ({ cls := "java/lang/AbstractStringBuilder", name := "inflateIfNeededFor", desc := "(Ljava/lang/String;)V" } : Jvm.MethodName) jdk_68_method_71_code (2 : Nat) (Option.none : Option Jvm.ClassFile.FieldType)).before args0 about1 = true := code_word (m := ⟨11, 7⟩) (meth := k11m7) (c := k11c7) (by decide +kernel) rfl rfl rfl (by decide +kernel)
set_option maxRecDepth 65536 in
theorem w_c20 : (Jvm.Cond.code ({ cls := "java/lang/String", name := "getBytes", desc := "([BIB)V" } : Jvm.MethodName) jdk_42_method_147_code (4 : Nat) (Option.none : Option Jvm.ClassFile.FieldType)).before args0 about1 = true := code_word (m := ⟨7, 9⟩) (meth := k7m9) (c := k7c9) (by decide +kernel) rfl rfl rfl (by decide +kernel)
set_option maxRecDepth 65536 in
theorem w_c21 : (Jvm.Cond.code ({ cls := "java/lang/StringBuilder", name := "toString", desc := "()Ljava/lang/String;" } : Jvm.MethodName) jdk_67_method_42_code (1 : Nat) (Option.some (Jvm.ClassFile.FieldType.object "java/lang/String"))).before args0 about1 = true := code_word (m := ⟨12, 2⟩) (meth := k12m2) (c := k12c2) (by decide +kernel) rfl rfl rfl (by decide +kernel)
set_option maxRecDepth 65536 in
theorem w_c22 : (Jvm.Cond.code ({ cls := "java/lang/String", name := "<init>", desc := "(Ljava/lang/StringBuilder;)V" } : Jvm.MethodName) jdk_42_method_53_code (2 : Nat) (Option.none : Option Jvm.ClassFile.FieldType)).before args0 about1 = true := code_word (m := ⟨7, 2⟩) (meth := k7m2) (c := k7c2) (by decide +kernel) rfl rfl rfl (by decide +kernel)
set_option maxRecDepth 65536 in
theorem w_c23 : (Jvm.Cond.code ({ cls := "java/lang/String", name := "<init>", desc := "(Ljava/lang/AbstractStringBuilder;Ljava/lang/Void;)V" } : Jvm.MethodName) jdk_42_method_150_code (5 : Nat) (Option.none : Option Jvm.ClassFile.FieldType)).before args0 about1 = true := code_word (m := ⟨7, 11⟩) (meth := k7m11) (c := k7c11) (by decide +kernel) rfl rfl rfl (by decide +kernel)
set_option maxRecDepth 65536 in
theorem w_c24 : (Jvm.Cond.code ({ cls := "java/lang/AbstractStringBuilder", name := "getValue", desc := "()[B" } : Jvm.MethodName) jdk_68_method_64_code (1 : Nat) (Option.some (Jvm.ClassFile.FieldType.array Jvm.ClassFile.FieldType.byte))).before args0 about1 = true := code_word (m := ⟨11, 5⟩) (meth := k11m5) (c := k11c5) (by decide +kernel) rfl rfl rfl (by decide +kernel)
set_option maxRecDepth 65536 in
theorem w_c25 : (Jvm.Cond.code ({ cls := "java/lang/StringBuilder", name := "length", desc := "()I" } : Jvm.MethodName) jdk_67_method_93_code (1 : Nat) (Option.some Jvm.ClassFile.FieldType.int)).before args0 about1 = true := code_word (m := ⟨12, 3⟩) (meth := k12m3) (c := k12c3) (by decide +kernel) rfl rfl rfl (by decide +kernel)
set_option maxRecDepth 65536 in
theorem w_c26 : (Jvm.Cond.code ({ cls := "java/lang/AbstractStringBuilder", name := "length", desc := "()I" } : Jvm.MethodName) jdk_68_method_6_code (1 : Nat) (Option.some Jvm.ClassFile.FieldType.int)).before args0 about1 = true := code_word (m := ⟨11, 2⟩) (meth := k11m2) (c := k11c2) (by decide +kernel) rfl rfl rfl (by decide +kernel)
set_option maxRecDepth 65536 in
theorem w_c27 : (Jvm.Cond.code ({ cls := "java/lang/AbstractStringBuilder", name := "isLatin1", desc := "()Z" } : Jvm.MethodName) jdk_68_method_68_code (1 : Nat) (Option.some Jvm.ClassFile.FieldType.boolean)).before args0 about1 = true := code_word (m := ⟨11, 6⟩) (meth := k11m6) (c := k11c6) (by decide +kernel) rfl rfl rfl (by decide +kernel)
set_option maxRecDepth 65536 in
theorem w_c28 : (Jvm.Cond.code ({ cls := "java/util/Arrays", name := "copyOfRange", desc := "([BII)[B" } : Jvm.MethodName) jdk_65_method_132_code (3 : Nat) (Option.some (Jvm.ClassFile.FieldType.array Jvm.ClassFile.FieldType.byte))).before args0 about1 = true := code_word (m := ⟨14, 2⟩) (meth := k14m2) (c := k14c2) (by decide +kernel) rfl rfl rfl (by decide +kernel)
set_option maxRecDepth 65536 in
theorem w_c29 : (Jvm.Cond.code ({ cls := "java/util/Arrays", name := "copyOfRangeByte", desc := "([BII)[B" } : Jvm.MethodName) jdk_65_method_133_code (5 : Nat) (Option.some (Jvm.ClassFile.FieldType.array Jvm.ClassFile.FieldType.byte))).before args0 about1 = true := code_word (m := ⟨14, 3⟩) (meth := k14m3) (c := k14c3) (by decide +kernel) rfl rfl rfl (by decide +kernel)
set_option maxRecDepth 65536 in
theorem w_c30 : (Jvm.Cond.code ({ cls := "java/util/Arrays", name := "checkLength", desc := "(II)V" } : Jvm.MethodName) jdk_65_method_131_code (2 : Nat) (Option.none : Option Jvm.ClassFile.FieldType)).before args0 about1 = true := code_word (m := ⟨14, 1⟩) (meth := k14m1) (c := k14c1) (by decide +kernel) rfl rfl rfl (by decide +kernel)
set_option maxRecDepth 65536 in
theorem w_c31 : (Jvm.Cond.code ({ cls := "java/lang/Math", name := "min", desc := "(II)I" } : Jvm.MethodName) jdk_29_method_69_code (2 : Nat) (Option.some Jvm.ClassFile.FieldType.int)).before args0 about1 = true := code_word (m := ⟨15, 1⟩) (meth := k15m1) (c := k15c1) (by decide +kernel) rfl rfl rfl (by decide +kernel)
set_option maxRecDepth 65536 in
theorem w_c32 : (Jvm.Cond.code ({ cls := "com/example/mapwright/mapwright/config/MapperReaderQualifiedPinLaw", name := "ok", desc := "(Ljava/lang/String;IIIII)Z" } : Jvm.MethodName) method_5_code (7 : Nat) (Option.some Jvm.ClassFile.FieldType.boolean)).before args0 about1 = true := code_word (m := ⟨1, 4⟩) (meth := k1m4) (c := k1c4) (by decide +kernel) rfl rfl rfl (by decide +kernel)
set_option maxRecDepth 65536 in
theorem w_c33 : (Jvm.Cond.code ({ cls := "java/lang/String", name := "charAt", desc := "(I)C" } : Jvm.MethodName) jdk_42_method_56_code (2 : Nat) (Option.some Jvm.ClassFile.FieldType.char)).before args0 about1 = true := code_word (m := ⟨7, 4⟩) (meth := k7m4) (c := k7c4) (by decide +kernel) rfl rfl rfl (by decide +kernel)
set_option maxRecDepth 65536 in
theorem w_c34 : (Jvm.Cond.code ({ cls := "java/lang/StringLatin1", name := "charAt", desc := "([BI)C" } : Jvm.MethodName) jdk_43_method_2_code (2 : Nat) (Option.some Jvm.ClassFile.FieldType.char)).before args0 about1 = true := code_word (m := ⟨9, 1⟩) (meth := k9m1) (c := k9c1) (by decide +kernel) rfl rfl rfl (by decide +kernel)
set_option maxRecDepth 65536 in
theorem w_c35 : (Jvm.Cond.code ({ cls := "java/lang/String", name := "checkIndex", desc := "(II)V" } : Jvm.MethodName) jdk_42_method_155_code (2 : Nat) (Option.none : Option Jvm.ClassFile.FieldType)).before args0 about1 = true := code_word (m := ⟨7, 14⟩) (meth := k7m14) (c := k7c14) (by decide +kernel) rfl rfl rfl (by decide +kernel)
set_option maxRecDepth 65536 in
theorem w_c36 : (Jvm.Cond.code ({ cls := "jdk/internal/util/Preconditions", name := "checkIndex", desc := "(IILjava/util/function/BiFunction;)I" } : Jvm.MethodName) jdk_41_method_11_code (3 : Nat) (Option.some Jvm.ClassFile.FieldType.int)).before args0 about1 = true := code_word (m := ⟨16, 1⟩) (meth := k16m1) (c := k16c1) (by decide +kernel) rfl rfl rfl (by decide +kernel)
set_option maxRecDepth 65536 in
theorem w_c37 : (Jvm.Cond.code ({ cls := "com/example/mapwright/mapwright/config/MapperReaderQualifiedPinLaw", name := "ch", desc := "(II)C" } : Jvm.MethodName) method_3_code (3 : Nat) (Option.some Jvm.ClassFile.FieldType.char)).before args0 about1 = true := code_word (m := ⟨1, 2⟩) (meth := k1m2) (c := k1c2) (by decide +kernel) rfl rfl rfl (by decide +kernel)
set_option maxRecDepth 65536 in
theorem w_c38 : (Jvm.Cond.code ({ cls := "java/lang/StringUTF16", name := "compress", desc := "([CII)[B" } : Jvm.MethodName) jdk_52_method_16_code (6 : Nat) (Option.some (Jvm.ClassFile.FieldType.array Jvm.ClassFile.FieldType.byte))).before args0 about1 = true := code_word (m := ⟨17, 2⟩) (meth := k17m2) (c := k17c2) (by decide +kernel) rfl rfl rfl (by decide +kernel)
set_option maxRecDepth 65536 in
theorem w_c39 : (Jvm.Cond.code ({ cls := "java/lang/StringUTF16", name := "compress", desc := "([CI[BII)I" } : Jvm.MethodName) jdk_52_method_21_code (7 : Nat) (Option.some Jvm.ClassFile.FieldType.int)).before args0 about1 = true := code_word (m := ⟨17, 3⟩) (meth := k17m3) (c := k17c3) (by decide +kernel) rfl rfl rfl (by decide +kernel)
set_option maxRecDepth 65536 in
theorem w_c40 : (Jvm.Cond.code ({ cls := "java/lang/StringUTF16", name := "coderFromArrayLen", desc := "([BI)B" } : Jvm.MethodName) jdk_52_method_15_code (2 : Nat) (Option.some Jvm.ClassFile.FieldType.byte)).before args0 about1 = true := code_word (m := ⟨17, 1⟩) (meth := k17m1) (c := k17c1) (by decide +kernel) rfl rfl rfl (by decide +kernel)
set_option maxRecDepth 65536 in
theorem w_c41 : (Jvm.Cond.code ({ cls := "java/lang/StringLatin1", name := "indexOf", desc := "([BI[BII)I" } : Jvm.MethodName) jdk_43_method_25_code (11 : Nat) (Option.some Jvm.ClassFile.FieldType.int)).before args0 about1 = true := code_word (m := ⟨9, 3⟩) (meth := k9m3) (c := k9c3) (by decide +kernel) rfl rfl rfl (by decide +kernel)
set_option maxRecDepth 65536 in
theorem w_c42 : (Jvm.Cond.code ({ cls := "java/lang/String", name := "equals", desc := "(Ljava/lang/Object;)Z" } : Jvm.MethodName) jdk_42_method_66_code (3 : Nat) (Option.some Jvm.ClassFile.FieldType.boolean)).before args0 about1 = true := code_word (m := ⟨7, 5⟩) (meth := k7m5) (c := k7c5) (by decide +kernel) rfl rfl rfl (by decide +kernel)
def codes1 : List Jvm.Cond := [Jvm.Cond.code x code maxLocals ret, Jvm.Cond.code ({ cls := "com/example/mapwright/mapwright/config/MapperReaderQualifiedPinLaw", name := "str", desc := "(II)Ljava/lang/String;" } : Jvm.MethodName) method_4_code (2 : Nat) (Option.some (Jvm.ClassFile.FieldType.object "java/lang/String")), Jvm.Cond.code ({ cls := "java/lang/String", name := "<init>", desc := "([C)V" } : Jvm.MethodName) jdk_42_method_3_code (2 : Nat) (Option.none : Option Jvm.ClassFile.FieldType), Jvm.Cond.code ({ cls := "java/lang/String", name := "<init>", desc := "([CIILjava/lang/Void;)V" } : Jvm.MethodName) jdk_42_method_149_code (6 : Nat) (Option.none : Option Jvm.ClassFile.FieldType), Jvm.Cond.code ({ cls := "java/lang/Object", name := "<init>", desc := "()V" } : Jvm.MethodName) object_method_1_code (1 : Nat) (Option.none : Option Jvm.ClassFile.FieldType), Jvm.Cond.code ({ cls := "com/example/mapwright/mapwright/config/MapperReader", name := "qualified", desc := "(Ljava/lang/String;Ljava/lang/String;)Ljava/lang/String;" } : Jvm.MethodName) prog_26_method_11_code (2 : Nat) (Option.some (Jvm.ClassFile.FieldType.object "java/lang/String")), Jvm.Cond.code ({ cls := "java/lang/String", name := "contains", desc := "(Ljava/lang/CharSequence;)Z" } : Jvm.MethodName) jdk_42_method_97_code (2 : Nat) (Option.some Jvm.ClassFile.FieldType.boolean), Jvm.Cond.code ({ cls := "java/lang/String", name := "toString", desc := "()Ljava/lang/String;" } : Jvm.MethodName) jdk_42_method_126_code (1 : Nat) (Option.some (Jvm.ClassFile.FieldType.object "java/lang/String")), Jvm.Cond.code ({ cls := "java/lang/String", name := "indexOf", desc := "(Ljava/lang/String;)I" } : Jvm.MethodName) jdk_42_method_84_code (3 : Nat) (Option.some Jvm.ClassFile.FieldType.int), Jvm.Cond.code ({ cls := "java/lang/String", name := "coder", desc := "()B" } : Jvm.MethodName) jdk_42_method_152_code (1 : Nat) (Option.some Jvm.ClassFile.FieldType.byte), Jvm.Cond.code ({ cls := "java/lang/String", name := "isLatin1", desc := "()Z" } : Jvm.MethodName) jdk_42_method_154_code (1 : Nat) (Option.some Jvm.ClassFile.FieldType.boolean), Jvm.Cond.code ({ cls := "java/lang/StringLatin1", name := "indexOf", desc := "([B[B)I" } : Jvm.MethodName) jdk_43_method_24_code (2 : Nat) (Option.some Jvm.ClassFile.FieldType.int), Jvm.Cond.code ({ cls := "java/lang/StringBuilder", name := "<init>", desc := "()V" } : Jvm.MethodName) jdk_67_method_1_code (1 : Nat) (Option.none : Option Jvm.ClassFile.FieldType), Jvm.Cond.code ({ cls := "java/lang/AbstractStringBuilder", name := "<init>", desc := "(I)V" } : Jvm.MethodName) jdk_68_method_2_code (2 : Nat) (Option.none : Option Jvm.ClassFile.FieldType), Jvm.Cond.code ({ cls := "java/lang/StringBuilder", name := "append", desc := "(Ljava/lang/String;)Ljava/lang/StringBuilder;" } : Jvm.MethodName) jdk_67_method_7_code (2 : Nat) (Option.some (Jvm.ClassFile.FieldType.object "java/lang/StringBuilder")), Jvm.Cond.code ({ cls := "java/lang/AbstractStringBuilder", name := "append", desc := "(Ljava/lang/String;)Ljava/lang/AbstractStringBuilder;" } : Jvm.MethodName) jdk_68_method_22_code (3 : Nat) (Option.some (Jvm.ClassFile.FieldType.object "java/lang/AbstractStringBuilder")), Jvm.Cond.code ({ cls := "java/lang/String", name := "length", desc := "()I" } : Jvm.MethodName) jdk_42_method_54_code (1 : Nat) (Option.some Jvm.ClassFile.FieldType.int), Jvm.Cond.code ({ cls := "java/lang/AbstractStringBuilder", name := "ensureCapacityInternal", desc := "(I)V" } : Jvm.MethodName) jdk_68_method_9_code (3 : Nat) (Option.none : Option Jvm.ClassFile.FieldType), Jvm.Cond.code ({ cls := "java/lang/AbstractStringBuilder", name := "putStringAt", desc := "(ILjava/lang/String;)V" } : Jvm.MethodName) jdk_68_method_73_code (3 : Nat) (Option.none : Option Jvm.ClassFile.FieldType), Jvm.Cond.code ({ cls := "java/lang/AbstractStringBuilder", name := "inflateIfNeededFor", desc := "(Ljava/lang/String;)V" } : Jvm.MethodName) jdk_68_method_71_code (2 : Nat) (Option.none : Option Jvm.ClassFile.FieldType), Jvm.Cond.code ({ cls := "java/lang/String", name := "getBytes", desc := "([BIB)V" } : Jvm.MethodName) jdk_42_method_147_code (4 : Nat) (Option.none : Option Jvm.ClassFile.FieldType), Jvm.Cond.code ({ cls := "java/lang/StringBuilder", name := "toString", desc := "()Ljava/lang/String;" } : Jvm.MethodName) jdk_67_method_42_code (1 : Nat) (Option.some (Jvm.ClassFile.FieldType.object "java/lang/String")), Jvm.Cond.code ({ cls := "java/lang/String", name := "<init>", desc := "(Ljava/lang/StringBuilder;)V" } : Jvm.MethodName) jdk_42_method_53_code (2 : Nat) (Option.none : Option Jvm.ClassFile.FieldType), Jvm.Cond.code ({ cls := "java/lang/String", name := "<init>", desc := "(Ljava/lang/AbstractStringBuilder;Ljava/lang/Void;)V" } : Jvm.MethodName) jdk_42_method_150_code (5 : Nat) (Option.none : Option Jvm.ClassFile.FieldType), Jvm.Cond.code ({ cls := "java/lang/AbstractStringBuilder", name := "getValue", desc := "()[B" } : Jvm.MethodName) jdk_68_method_64_code (1 : Nat) (Option.some (Jvm.ClassFile.FieldType.array Jvm.ClassFile.FieldType.byte)), Jvm.Cond.code ({ cls := "java/lang/StringBuilder", name := "length", desc := "()I" } : Jvm.MethodName) jdk_67_method_93_code (1 : Nat) (Option.some Jvm.ClassFile.FieldType.int), Jvm.Cond.code ({ cls := "java/lang/AbstractStringBuilder", name := "length", desc := "()I" } : Jvm.MethodName) jdk_68_method_6_code (1 : Nat) (Option.some Jvm.ClassFile.FieldType.int), Jvm.Cond.code ({ cls := "java/lang/AbstractStringBuilder", name := "isLatin1", desc := "()Z" } : Jvm.MethodName) jdk_68_method_68_code (1 : Nat) (Option.some Jvm.ClassFile.FieldType.boolean), Jvm.Cond.code ({ cls := "java/util/Arrays", name := "copyOfRange", desc := "([BII)[B" } : Jvm.MethodName) jdk_65_method_132_code (3 : Nat) (Option.some (Jvm.ClassFile.FieldType.array Jvm.ClassFile.FieldType.byte)), Jvm.Cond.code ({ cls := "java/util/Arrays", name := "copyOfRangeByte", desc := "([BII)[B" } : Jvm.MethodName) jdk_65_method_133_code (5 : Nat) (Option.some (Jvm.ClassFile.FieldType.array Jvm.ClassFile.FieldType.byte)), Jvm.Cond.code ({ cls := "java/util/Arrays", name := "checkLength", desc := "(II)V" } : Jvm.MethodName) jdk_65_method_131_code (2 : Nat) (Option.none : Option Jvm.ClassFile.FieldType), Jvm.Cond.code ({ cls := "java/lang/Math", name := "min", desc := "(II)I" } : Jvm.MethodName) jdk_29_method_69_code (2 : Nat) (Option.some Jvm.ClassFile.FieldType.int), Jvm.Cond.code ({ cls := "com/example/mapwright/mapwright/config/MapperReaderQualifiedPinLaw", name := "ok", desc := "(Ljava/lang/String;IIIII)Z" } : Jvm.MethodName) method_5_code (7 : Nat) (Option.some Jvm.ClassFile.FieldType.boolean), Jvm.Cond.code ({ cls := "java/lang/String", name := "charAt", desc := "(I)C" } : Jvm.MethodName) jdk_42_method_56_code (2 : Nat) (Option.some Jvm.ClassFile.FieldType.char), Jvm.Cond.code ({ cls := "java/lang/StringLatin1", name := "charAt", desc := "([BI)C" } : Jvm.MethodName) jdk_43_method_2_code (2 : Nat) (Option.some Jvm.ClassFile.FieldType.char), Jvm.Cond.code ({ cls := "java/lang/String", name := "checkIndex", desc := "(II)V" } : Jvm.MethodName) jdk_42_method_155_code (2 : Nat) (Option.none : Option Jvm.ClassFile.FieldType), Jvm.Cond.code ({ cls := "jdk/internal/util/Preconditions", name := "checkIndex", desc := "(IILjava/util/function/BiFunction;)I" } : Jvm.MethodName) jdk_41_method_11_code (3 : Nat) (Option.some Jvm.ClassFile.FieldType.int), Jvm.Cond.code ({ cls := "com/example/mapwright/mapwright/config/MapperReaderQualifiedPinLaw", name := "ch", desc := "(II)C" } : Jvm.MethodName) method_3_code (3 : Nat) (Option.some Jvm.ClassFile.FieldType.char), Jvm.Cond.code ({ cls := "java/lang/StringUTF16", name := "compress", desc := "([CII)[B" } : Jvm.MethodName) jdk_52_method_16_code (6 : Nat) (Option.some (Jvm.ClassFile.FieldType.array Jvm.ClassFile.FieldType.byte)), Jvm.Cond.code ({ cls := "java/lang/StringUTF16", name := "compress", desc := "([CI[BII)I" } : Jvm.MethodName) jdk_52_method_21_code (7 : Nat) (Option.some Jvm.ClassFile.FieldType.int), Jvm.Cond.code ({ cls := "java/lang/StringUTF16", name := "coderFromArrayLen", desc := "([BI)B" } : Jvm.MethodName) jdk_52_method_15_code (2 : Nat) (Option.some Jvm.ClassFile.FieldType.byte), Jvm.Cond.code ({ cls := "java/lang/StringLatin1", name := "indexOf", desc := "([BI[BII)I" } : Jvm.MethodName) jdk_43_method_25_code (11 : Nat) (Option.some Jvm.ClassFile.FieldType.int), Jvm.Cond.code ({ cls := "java/lang/String", name := "equals", desc := "(Ljava/lang/Object;)Z" } : Jvm.MethodName) jdk_42_method_66_code (3 : Nat) (Option.some Jvm.ClassFile.FieldType.boolean)]
set_option maxRecDepth 65536 in
theorem codes_eq : words1.filter isCode = codes1 := rfl
theorem w_codes : ∀ c ∈ words1.filter isCode, c.before args0 about1 = true := by
  rw [codes_eq]
  intro c hc
  simp only [codes1, List.mem_cons, List.not_mem_nil, or_false] at hc
  rcases hc with rfl | rfl | rfl | rfl | rfl | rfl | rfl | rfl | rfl | rfl | rfl | rfl | rfl | rfl | rfl | rfl | rfl | rfl | rfl | rfl | rfl | rfl | rfl | rfl | rfl | rfl | rfl | rfl | rfl | rfl | rfl | rfl | rfl | rfl | rfl | rfl | rfl | rfl | rfl | rfl | rfl | rfl | rfl
  · exact w_c0
  · exact w_c1
  · exact w_c2
  · exact w_c3
  · exact w_c4
  · exact w_c5
  · exact w_c6
  · exact w_c7
  · exact w_c8
  · exact w_c9
  · exact w_c10
  · exact w_c11
  · exact w_c12
  · exact w_c13
  · exact w_c14
  · exact w_c15
  · exact w_c16
  · exact w_c17
  · exact w_c18
  · exact w_c19
  · exact w_c20
  · exact w_c21
  · exact w_c22
  · exact w_c23
  · exact w_c24
  · exact w_c25
  · exact w_c26
  · exact w_c27
  · exact w_c28
  · exact w_c29
  · exact w_c30
  · exact w_c31
  · exact w_c32
  · exact w_c33
  · exact w_c34
  · exact w_c35
  · exact w_c36
  · exact w_c37
  · exact w_c38
  · exact w_c39
  · exact w_c40
  · exact w_c41
  · exact w_c42
set_option maxRecDepth 65536 in
theorem w_t1 : (words1.take 24).all (fun c => isCode c || c.before args0 about1) = true := by decide +kernel
set_option maxRecDepth 65536 in
theorem w_t2 : ((words1.drop 24).take 24).all (fun c => isCode c || c.before args0 about1) = true := by decide +kernel
set_option maxRecDepth 65536 in
theorem w_t3 : (((words1.drop 24).drop 24).take 24).all (fun c => isCode c || c.before args0 about1) = true := by decide +kernel
set_option maxRecDepth 65536 in
theorem w_t4 : ((((words1.drop 24).drop 24).drop 24).take 24).all (fun c => isCode c || c.before args0 about1) = true := by decide +kernel
set_option maxRecDepth 65536 in
theorem w_t5 : (((((words1.drop 24).drop 24).drop 24).drop 24).take 24).all (fun c => isCode c || c.before args0 about1) = true := by decide +kernel
set_option maxRecDepth 65536 in
theorem w_t6 : ((((((words1.drop 24).drop 24).drop 24).drop 24).drop 24).take 24).all (fun c => isCode c || c.before args0 about1) = true := by decide +kernel
set_option maxRecDepth 65536 in
theorem w_t7 : (((((((words1.drop 24).drop 24).drop 24).drop 24).drop 24).drop 24).take 24).all (fun c => isCode c || c.before args0 about1) = true := by decide +kernel
set_option maxRecDepth 65536 in
theorem w_t8 : ((((((((words1.drop 24).drop 24).drop 24).drop 24).drop 24).drop 24).drop 24).take 24).all (fun c => isCode c || c.before args0 about1) = true := by decide +kernel
set_option maxRecDepth 65536 in
theorem w_t9 : ((((((((words1.drop 24).drop 24).drop 24).drop 24).drop 24).drop 24).drop 24).drop 24).all (fun c => isCode c || c.before args0 about1) = true := by decide +kernel
theorem w_tables : (allAtoms (Jvm.Cond.code x code maxLocals ret :: tables_1)).before args0 about1 = true := by
  rw [allAtoms_all]
  show words1.all (fun c => c.before args0 about1) = true
  refine all_split ?_ w_codes
  rw [← List.take_append_drop 24 words1, List.all_append, w_t1, ← List.take_append_drop 24 (words1.drop 24), List.all_append, w_t2, ← List.take_append_drop 24 ((words1.drop 24).drop 24), List.all_append, w_t3, ← List.take_append_drop 24 (((words1.drop 24).drop 24).drop 24), List.all_append, w_t4, ← List.take_append_drop 24 ((((words1.drop 24).drop 24).drop 24).drop 24), List.all_append, w_t5, ← List.take_append_drop 24 (((((words1.drop 24).drop 24).drop 24).drop 24).drop 24), List.all_append, w_t6, ← List.take_append_drop 24 ((((((words1.drop 24).drop 24).drop 24).drop 24).drop 24).drop 24), List.all_append, w_t7, ← List.take_append_drop 24 (((((((words1.drop 24).drop 24).drop 24).drop 24).drop 24).drop 24).drop 24), List.all_append, w_t8, w_t9]
  rfl
set_option maxRecDepth 65536 in
theorem w_rest : rest_1_c.before args0 about1 = true := by decide +kernel
set_option maxRecDepth 65536 in
theorem w_case : (Jvm.Cond.and given_1 narrow_1).before args0 about1 = true := by decide +kernel
set_option maxRecDepth 65536 in
theorem w_consts : constsHeld consts_1 about1 := Jvm.Lit.constsHeldB_iff.mp (by decide +kernel)
theorem w_applies : (headSpec (Jvm.Cond.code x code maxLocals ret :: tables_1) room_1).applies x e0.platform about1 = true :=
  (Spec.applies_iff w_frames).mpr ⟨w_running, w_runnable, w_alone, w_named, w_hears, w_ripe, w_room, w_tables⟩
theorem atStart : AtStart classFile x code maxLocals ret World_1 tables_1 room_1 Calls_1 rest_1 Pre_1 launch0 p0 e0 about1 theMethod args0 below0 :=
  ⟨lists_1, trivial, launch0.admits_env _ _ _, launch0.least_env, fairChoices_fair.cas, fairChoices_fair.clock, w_frames, w_args, w_heap, w_applies, ⟨w_consts, trivial⟩, w_rest, w_case⟩
end start1
theorem witness_1 : WitnessClaimed_1 := ⟨start1.p0, start1.e0, start1.about1, start1.theMethod, start1.args0, start1.below0, start1.atStart⟩
end Jvm.Pilot.@@N@@

import JvmDerived
import JvmDerived.Pilot.@@N@@Statement
import JvmDerived.Pilot.@@N@@Code
set_option linter.unusedVariables false
set_option linter.unusedSimpArgs false
namespace Jvm.Pilot.@@N@@
open Jvm Jvm.ClassFile Sem Op Lib Jvm.Free Jvm.Stand Jvm.LawKit Jvm.RoadKit Bundle Jvm.Pilot.@@N@@.Jvm.D
/-- from the frame g over T the run comes to its end, and P holds of what comes out -/
def Wp (p : Program) (e : Env) (below : List Frame) (P : Outcome → State → Prop) (T : State) (g : JFrame) : Prop := ∃ s₂ o, Steps p.tables e below (T.setTop g) s₂ ∧ s₂.status = .running ∧ Ended s₂ below o ∧ P o s₂
/-- where a walk stands -/
def WS (p : Program) (l : Launch) (e : Env) (R : Room) (s : State) (m : MethodId) (args : Array Value) (below : List Frame) (meth : Method) (c : Code) (Z : State) (EL : List (String × Nat)) (n0 : Nat) (own : String) (code : ByteArray) (ml : Nat) (bw : Bool) (vm : Vm) (T : State) (h : Heap) (locs : List Loc) (cells slots : Nat) : Prop :=
  Stand p l e R (s.setVm vm) m args below meth c T locs cells slots ∧ T.heap = h ∧ Z.Warmed39 (s.setVm vm).vm ∧ (s.setVm vm).vm.findClass own = some m.cls ∧ p.tables.exec = Jvm.exec ∧ c.code = code ∧ c.maxLocals = ml ∧ Fr n0 locs ∧ Old Z n0 h ∧ ((bw = false ∧ vm = s.vm) ∨ (bw = true ∧ (∃ k, s.Since vm k ∧ k ≤ h.size) ∧ CHr Z EL s.vm s.heap vm h))
/-- what a callee's payer gives: a callee that interns nothing -/
def BkN (l : Launch) (R : Room) (p : Program) (e : Env) (below : List Frame) (s : State) (args : Array Value) (y : MethodName) (len W : Nat) (as' : Array Value) (h : Heap) (n0 : Nat) (wr : List Addr) (Q : Option Value → Heap → Prop) (kc ks : Nat) : Prop := Back l R p e below s args y len W (fun B a => a = as' ∧ B.U.heap = h ∧ B.cells + kc ≤ R.cells ∧ B.slots + ks ≤ R.slots) (fun B _ v B' => ∃ L, (Fr n0 L ∧ Keep h B'.U.heap wr ∧ Q v B'.U.heap) ∧ B'.locs = B.locs ++ L ∧ B'.cells = B.cells + kc ∧ B'.slots = B.slots + ks)
/-- .. and one that may -/
def BkS (l : Launch) (R : Room) (p : Program) (e : Env) (below : List Frame) (s : State) (args : Array Value) (y : MethodName) (len W : Nat) (as' : Array Value) (h : Heap) (n0 : Nat) (wr : List Addr) (Q : Option Value → Heap → Prop) (kc ks : Nat) (Z : State) (EL : List (String × Nat)) (vm : Vm) : Prop := BackS l R p e below s args y len W (fun B a => a = as' ∧ B.U.heap = h ∧ B.cells + kc ≤ R.cells ∧ B.slots + ks ≤ R.slots) (fun B _ v B' => ∃ L, (Fr n0 L ∧ Keep h B'.U.heap wr ∧ Q v B'.U.heap) ∧ B'.locs = B.locs ++ L ∧ B'.cells = B.cells + kc ∧ B'.slots = B.slots + ks ∧ CHr Z EL vm h B'.U.vm B'.U.heap)
section OwnKit
variable {p : Program} {l : Launch} {e : Env} {R : Room} {s : State} {m : MethodId} {args : Array Value} {below : List Frame} {meth : Method} {c : Code} {Z : State} {EL : List (String × Nat)} {n0 : Nat} {own : String} {code : ByteArray} {ml : Nat} {bw : Bool} {vm : Vm} {T : State} {h : Heap} {locs : List Loc} {cells slots : Nat} {P : Outcome → State → Prop} {pc pc' : Nat} {L : Array Slot} {S : List Value} {a0 : Array Value}
theorem Wp.go {T T' : State} {g g' : JFrame} (k : Wp p e below P T' g') (st : ∀ t, Steps p.tables e below (T'.setTop g') t → Steps p.tables e below (T.setTop g) t) : Wp p e below P T g := by
  obtain ⟨s₂, o, a, r⟩ := k; exact ⟨s₂, o, st _ a, r⟩
theorem Wp.gos {T T' : State} {g g' : JFrame} (k : Wp p e below P T' g') (st : Steps p.tables e below (T.setTop g) (T'.setTop g')) : Wp p e below P T g := by
  obtain ⟨s₂, o, a, r⟩ := k; exact ⟨s₂, o, st.trans a, r⟩
abbrev wN (bw : Bool) (Z : State) (EL : List (String × Nat)) (vm : Vm) (h : Heap) (a : Addr) : Prop := bw = true → Safe Z EL vm h a
/-- a step of the tables alone -/
theorem WS.still {T' : State} (A : WS p l e R s m args below meth c Z EL n0 own code ml bw vm T h locs cells slots) (X : Stand p l e R (s.setVm vm) m args below meth c T' locs cells slots) (q : T'.heap = h) : WS p l e R s m args below meth c Z EL n0 own code ml bw vm T' h locs cells slots :=
  ⟨X, q, A.2.2⟩
theorem WS.grow {T' : State} {h' : Heap} {k n : Nat} (A : WS p l e R s m args below meth c Z EL n0 own code ml bw vm T h locs cells slots) (X : Stand p l e R (s.setVm vm) m args below meth c T' locs k n) (q : T'.heap = h') (E : Ext h h') : WS p l e R s m args below meth c Z EL n0 own code ml bw vm T' h' locs k n := by
  obtain ⟨-, -, a3, a4, a5, a6, a7, a8, a9, b⟩ := A
  refine ⟨X, q, a3, a4, a5, a6, a7, a8, a9.ext E, b.imp id fun ⟨b1, ⟨k, b2, b3⟩, b4⟩ => ⟨b1, ⟨k, b2, Nat.le_trans b3 E.1⟩, b4.trans (CHr.ext E b4.1)⟩⟩
theorem WS.kept {T' : State} {h' : Heap} {locs' : List Loc} {k n : Nat} {ws : List Addr} (A : WS p l e R s m args below meth c Z EL n0 own code ml bw vm T h locs cells slots) (X : Stand p l e R (s.setVm vm) m args below meth c T' locs' k n) (q : T'.heap = h') (N : Fr n0 locs') (K : Keep h h' ws) (hn : ∀ x ∈ ws, n0 ≤ x) (sf : bw = true → ∀ x ∈ ws, Safe Z EL vm h x) : WS p l e R s m args below meth c Z EL n0 own code ml bw vm T' h' locs' k n := by
  obtain ⟨-, -, a3, a4, a5, a6, a7, a8, a9, b⟩ := A
  refine ⟨X, q, a3, a4, a5, a6, a7, N, a9.keep K hn, b.imp id fun ⟨b1, ⟨k, b2, b3⟩, b4⟩ => ⟨b1, ⟨k, b2, Nat.le_trans b3 K.1⟩, b4.trans (CHr.keep K (sf b1) b4.1)⟩⟩
theorem WS.old (A : WS p l e R s m args below meth c Z EL n0 own code ml bw vm T h locs cells slots) : Old Z n0 h := A.2.2.2.2.2.2.2.2.1
theorem WS.sz (A : WS p l e R s m args below meth c Z EL n0 own code ml bw vm T h locs cells slots) : n0 ≤ h.size := by have q := A.old; exact q.1 ▸ q.2.1
theorem WS.hZ (A : WS p l e R s m args below meth c Z EL n0 own code ml bw vm T h locs cells slots) : Z.Warmed39 (s.setVm vm).vm := A.2.2.1
theorem WS.ch (A : WS p l e R s m args below meth c Z EL n0 own code ml bw vm T h locs cells slots) (q : bw = true) : CHr Z EL s.vm s.heap vm h := by
  obtain ⟨-, -, -, -, -, -, -, -, -, b⟩ := A
  rcases b with ⟨b, -⟩ | ⟨-, -, b⟩
  · rw [b] at q; cases q
  · exact b
theorem wd {ws : List Jvm.Cond} (hw : ∀ d ∈ ws, d.before a0 Z = true) (i : Nat) {d : Jvm.Cond} (q : ws[i]? = some d) : d.before a0 Z = true := hw _ (List.mem_of_getElem? q)
theorem Fld.ks {a : Addr} {C n d : String} {v : Value} {h h' : Heap} {ws : List Addr} (F : Fld Z h a C n d v) (K : Keep h h' ws) (q : a ∉ ws) : Fld Z h' a C n d v := F.keep K q

theorem f_iload (A : WS p l e R s m args below meth c Z EL n0 own code ml bw vm T h locs cells slots) {i : Nat} {v : Int32} (hd : decode code pc = .ok (.iload i, 2)) (hp : pc + 2 = pc') (hl : L[i]? = some (.val (.int v))) (k : Wp p e below P T (mkF m pc' L (.int v :: S))) : Wp p e below P T (mkF m pc L S) := by
  subst hp; exact k.go fun _ q => XS.iload A.1.here A.2.2.2.2.1 rfl (hb A.2.2.2.2.2.1 hd) hl q
theorem f_iloadN (A : WS p l e R s m args below meth c Z EL n0 own code ml bw vm T h locs cells slots) {i : Fin 4} {v : Int32} (hd : decode code pc = .ok (.iload_n i, 1)) (hp : pc + 1 = pc') (hl : L[i.val]? = some (.val (.int v))) (k : Wp p e below P T (mkF m pc' L (.int v :: S))) : Wp p e below P T (mkF m pc L S) := by
  subst hp; exact k.go fun _ q => XS.iloadN A.1.here A.2.2.2.2.1 rfl (hb A.2.2.2.2.2.1 hd) hl q
theorem f_istore (A : WS p l e R s m args below meth c Z EL n0 own code ml bw vm T h locs cells slots) {i : Nat} {v : Int32} {L' : Array Slot} (hd : decode code pc = .ok (.istore i, 2)) (hp : pc + 2 = pc') (hl : storeLocals L i (.int v) = some L') (k : Wp p e below P T (mkF m pc' L' S)) : Wp p e below P T (mkF m pc L (.int v :: S)) := by
  subst hp; exact k.go fun _ q => XS.istore A.1.here A.2.2.2.2.1 rfl (hb A.2.2.2.2.2.1 hd) rfl hl q
theorem f_istoreN (A : WS p l e R s m args below meth c Z EL n0 own code ml bw vm T h locs cells slots) {i : Fin 4} {v : Int32} {L' : Array Slot} (hd : decode code pc = .ok (.istore_n i, 1)) (hp : pc + 1 = pc') (hl : storeLocals L i.val (.int v) = some L') (k : Wp p e below P T (mkF m pc' L' S)) : Wp p e below P T (mkF m pc L (.int v :: S)) := by
  subst hp; exact k.go fun _ q => XS.istoreN A.1.here A.2.2.2.2.1 rfl (hb A.2.2.2.2.2.1 hd) rfl hl q
theorem f_lload (A : WS p l e R s m args below meth c Z EL n0 own code ml bw vm T h locs cells slots) {i : Nat} {v : Int64} (hd : decode code pc = .ok (.lload i, 2)) (hp : pc + 2 = pc') (hl : L[i]? = some (.val (.long v))) (k : Wp p e below P T (mkF m pc' L (.long v :: S))) : Wp p e below P T (mkF m pc L S) := by
  subst hp; exact k.go fun _ q => XS.lload A.1.here A.2.2.2.2.1 rfl (hb A.2.2.2.2.2.1 hd) hl q
theorem f_lloadN (A : WS p l e R s m args below meth c Z EL n0 own code ml bw vm T h locs cells slots) {i : Fin 4} {v : Int64} (hd : decode code pc = .ok (.lload_n i, 1)) (hp : pc + 1 = pc') (hl : L[i.val]? = some (.val (.long v))) (k : Wp p e below P T (mkF m pc' L (.long v :: S))) : Wp p e below P T (mkF m pc L S) := by
  subst hp; exact k.go fun _ q => XS.lloadN A.1.here A.2.2.2.2.1 rfl (hb A.2.2.2.2.2.1 hd) hl q
theorem f_lstore (A : WS p l e R s m args below meth c Z EL n0 own code ml bw vm T h locs cells slots) {i : Nat} {v : Int64} {L' : Array Slot} (hd : decode code pc = .ok (.lstore i, 2)) (hp : pc + 2 = pc') (hl : storeLocals L i (.long v) = some L') (k : Wp p e below P T (mkF m pc' L' S)) : Wp p e below P T (mkF m pc L (.long v :: S)) := by
  subst hp; exact k.go fun _ q => XS.lstore A.1.here A.2.2.2.2.1 rfl (hb A.2.2.2.2.2.1 hd) rfl hl q
theorem f_lstoreN (A : WS p l e R s m args below meth c Z EL n0 own code ml bw vm T h locs cells slots) {i : Fin 4} {v : Int64} {L' : Array Slot} (hd : decode code pc = .ok (.lstore_n i, 1)) (hp : pc + 1 = pc') (hl : storeLocals L i.val (.long v) = some L') (k : Wp p e below P T (mkF m pc' L' S)) : Wp p e below P T (mkF m pc L (.long v :: S)) := by
  subst hp; exact k.go fun _ q => XS.lstoreN A.1.here A.2.2.2.2.1 rfl (hb A.2.2.2.2.2.1 hd) rfl hl q
theorem f_aload (A : WS p l e R s m args below meth c Z EL n0 own code ml bw vm T h locs cells slots) {i : Nat} {v : Value} (hd : decode code pc = .ok (.aload i, 2)) (hp : pc + 2 = pc') (hl : L[i]? = some (.val v)) (hv : v.isRef = true) (k : Wp p e below P T (mkF m pc' L (v :: S))) : Wp p e below P T (mkF m pc L S) := by
  subst hp; exact k.go fun _ q => XS.aload A.1.here A.2.2.2.2.1 rfl (hb A.2.2.2.2.2.1 hd) hl hv q
theorem f_aloadN (A : WS p l e R s m args below meth c Z EL n0 own code ml bw vm T h locs cells slots) {i : Fin 4} {v : Value} (hd : decode code pc = .ok (.aload_n i, 1)) (hp : pc + 1 = pc') (hl : L[i.val]? = some (.val v)) (hv : v.isRef = true) (k : Wp p e below P T (mkF m pc' L (v :: S))) : Wp p e below P T (mkF m pc L S) := by
  subst hp; exact k.go fun _ q => XS.aloadN A.1.here A.2.2.2.2.1 rfl (hb A.2.2.2.2.2.1 hd) hl hv q
theorem f_astore (A : WS p l e R s m args below meth c Z EL n0 own code ml bw vm T h locs cells slots) {i : Nat} {v : Value} {L' : Array Slot} (hd : decode code pc = .ok (.astore i, 2)) (hp : pc + 2 = pc') (hv : v.isRef = true) (hl : storeLocals L i v = some L') (k : Wp p e below P T (mkF m pc' L' S)) : Wp p e below P T (mkF m pc L (v :: S)) := by
  subst hp; exact k.go fun _ q => XS.astore A.1.here A.2.2.2.2.1 rfl (hb A.2.2.2.2.2.1 hd) rfl hv hl q
theorem f_astoreN (A : WS p l e R s m args below meth c Z EL n0 own code ml bw vm T h locs cells slots) {i : Fin 4} {v : Value} {L' : Array Slot} (hd : decode code pc = .ok (.astore_n i, 1)) (hp : pc + 1 = pc') (hv : v.isRef = true) (hl : storeLocals L i.val v = some L') (k : Wp p e below P T (mkF m pc' L' S)) : Wp p e below P T (mkF m pc L (v :: S)) := by
  subst hp; exact k.go fun _ q => XS.astoreN A.1.here A.2.2.2.2.1 rfl (hb A.2.2.2.2.2.1 hd) rfl hv hl q
theorem f_iconst (A : WS p l e R s m args below meth c Z EL n0 own code ml bw vm T h locs cells slots) {i : Int} (hd : decode code pc = .ok (.iconst i, 1)) (hp : pc + 1 = pc') (v : Int32) (hv : Int32.ofInt i = v) (k : Wp p e below P T (mkF m pc' L (.int v :: S))) : Wp p e below P T (mkF m pc L S) := by
  subst hp hv; exact k.go fun _ q => XS.iconst A.1.here A.2.2.2.2.1 rfl (hb A.2.2.2.2.2.1 hd) q
theorem f_bipush (A : WS p l e R s m args below meth c Z EL n0 own code ml bw vm T h locs cells slots) {i : Int} (hd : decode code pc = .ok (.bipush i, 2)) (hp : pc + 2 = pc') (v : Int32) (hv : (Int8.ofInt i).toInt32 = v) (k : Wp p e below P T (mkF m pc' L (.int v :: S))) : Wp p e below P T (mkF m pc L S) := by
  subst hp hv; exact k.go fun _ q => XS.bipush A.1.here A.2.2.2.2.1 rfl (hb A.2.2.2.2.2.1 hd) q
theorem f_sipush (A : WS p l e R s m args below meth c Z EL n0 own code ml bw vm T h locs cells slots) {i : Int} (hd : decode code pc = .ok (.sipush i, 3)) (hp : pc + 3 = pc') (v : Int32) (hv : (Int16.ofInt i).toInt32 = v) (k : Wp p e below P T (mkF m pc' L (.int v :: S))) : Wp p e below P T (mkF m pc L S) := by
  subst hp hv; exact k.go fun _ q => XS.sipush A.1.here A.2.2.2.2.1 rfl (hb A.2.2.2.2.2.1 hd) q
theorem f_lconst (A : WS p l e R s m args below meth c Z EL n0 own code ml bw vm T h locs cells slots) {i : Fin 2} (hd : decode code pc = .ok (.lconst i, 1)) (hp : pc + 1 = pc') (v : Int64) (hv : Int64.ofNat i = v) (k : Wp p e below P T (mkF m pc' L (.long v :: S))) : Wp p e below P T (mkF m pc L S) := by
  subst hp hv; exact k.go fun _ q => XS.lconst A.1.here A.2.2.2.2.1 rfl (hb A.2.2.2.2.2.1 hd) q
theorem f_aconst_null (A : WS p l e R s m args below meth c Z EL n0 own code ml bw vm T h locs cells slots) (hd : decode code pc = .ok (.aconst_null, 1)) (hp : pc + 1 = pc') (k : Wp p e below P T (mkF m pc' L (.null :: S))) : Wp p e below P T (mkF m pc L S) := by
  subst hp; exact k.go fun _ q => XS.aconstNull A.1.here A.2.2.2.2.1 rfl (hb A.2.2.2.2.2.1 hd) q
theorem f_ldcI (A : WS p l e R s m args below meth c Z EL n0 own code ml bw vm T h locs cells slots) {i : Nat} {v : Int32} (hd : decode code pc = .ok (.ldc i, 2)) (hp : pc + 2 = pc') (w : (Cond.constant own i v).before a0 Z = true) (k : Wp p e below P T (mkF m pc' L (.int v :: S))) : Wp p e below P T (mkF m pc L S) := by
  subst hp; exact k.go fun t q => A.1.ldcInt A.2.2.2.2.1 A.2.2.2.1 (mvT A.hZ w) (g := mkF m pc L S) rfl (hb A.2.2.2.2.2.1 hd) t q
theorem f_ldc2J (A : WS p l e R s m args below meth c Z EL n0 own code ml bw vm T h locs cells slots) {i : Nat} {v : Int64} (hd : decode code pc = .ok (.ldc2_w i, 3)) (hp : pc + 3 = pc') (w : (Cond.constantLong own i v).before a0 Z = true) (k : Wp p e below P T (mkF m pc' L (.long v :: S))) : Wp p e below P T (mkF m pc L S) := by
  subst hp; exact k.go fun t q => A.1.ldc2Long A.2.2.2.2.1 A.2.2.2.1 (mvT A.hZ w) (g := mkF m pc L S) rfl (hb A.2.2.2.2.2.1 hd) t q
theorem f_iadd (A : WS p l e R s m args below meth c Z EL n0 own code ml bw vm T h locs cells slots) {x y : Int32} (hd : decode code pc = .ok (.iadd, 1)) (hp : pc + 1 = pc') (z : Int32) (hz : x + y = z) (k : Wp p e below P T (mkF m pc' L (.int z :: S))) : Wp p e below P T (mkF m pc L (.int y :: .int x :: S)) := by
  subst hp hz; exact k.go fun _ q => XS.iadd A.1.here A.2.2.2.2.1 rfl (hb A.2.2.2.2.2.1 hd) rfl q
theorem f_isub (A : WS p l e R s m args below meth c Z EL n0 own code ml bw vm T h locs cells slots) {x y : Int32} (hd : decode code pc = .ok (.isub, 1)) (hp : pc + 1 = pc') (z : Int32) (hz : x - y = z) (k : Wp p e below P T (mkF m pc' L (.int z :: S))) : Wp p e below P T (mkF m pc L (.int y :: .int x :: S)) := by
  subst hp hz; exact k.go fun _ q => XS.isub A.1.here A.2.2.2.2.1 rfl (hb A.2.2.2.2.2.1 hd) rfl q
theorem f_imul (A : WS p l e R s m args below meth c Z EL n0 own code ml bw vm T h locs cells slots) {x y : Int32} (hd : decode code pc = .ok (.imul, 1)) (hp : pc + 1 = pc') (z : Int32) (hz : x * y = z) (k : Wp p e below P T (mkF m pc' L (.int z :: S))) : Wp p e below P T (mkF m pc L (.int y :: .int x :: S)) := by
  subst hp hz; exact k.go fun _ q => XS.imul A.1.here A.2.2.2.2.1 rfl (hb A.2.2.2.2.2.1 hd) rfl q
theorem f_iand (A : WS p l e R s m args below meth c Z EL n0 own code ml bw vm T h locs cells slots) {x y : Int32} (hd : decode code pc = .ok (.iand, 1)) (hp : pc + 1 = pc') (z : Int32) (hz : x &&& y = z) (k : Wp p e below P T (mkF m pc' L (.int z :: S))) : Wp p e below P T (mkF m pc L (.int y :: .int x :: S)) := by
  subst hp hz; exact k.go fun _ q => XS.iand A.1.here A.2.2.2.2.1 rfl (hb A.2.2.2.2.2.1 hd) rfl q
theorem f_ior (A : WS p l e R s m args below meth c Z EL n0 own code ml bw vm T h locs cells slots) {x y : Int32} (hd : decode code pc = .ok (.ior, 1)) (hp : pc + 1 = pc') (z : Int32) (hz : x ||| y = z) (k : Wp p e below P T (mkF m pc' L (.int z :: S))) : Wp p e below P T (mkF m pc L (.int y :: .int x :: S)) := by
  subst hp hz; exact k.go fun _ q => XS.ior A.1.here A.2.2.2.2.1 rfl (hb A.2.2.2.2.2.1 hd) rfl q
theorem f_ixor (A : WS p l e R s m args below meth c Z EL n0 own code ml bw vm T h locs cells slots) {x y : Int32} (hd : decode code pc = .ok (.ixor, 1)) (hp : pc + 1 = pc') (z : Int32) (hz : x ^^^ y = z) (k : Wp p e below P T (mkF m pc' L (.int z :: S))) : Wp p e below P T (mkF m pc L (.int y :: .int x :: S)) := by
  subst hp hz; exact k.go fun _ q => XS.ixor A.1.here A.2.2.2.2.1 rfl (hb A.2.2.2.2.2.1 hd) rfl q
theorem f_ishl (A : WS p l e R s m args below meth c Z EL n0 own code ml bw vm T h locs cells slots) {x y : Int32} (hd : decode code pc = .ok (.ishl, 1)) (hp : pc + 1 = pc') (z : Int32) (hz : x <<< (y &&& 31) = z) (k : Wp p e below P T (mkF m pc' L (.int z :: S))) : Wp p e below P T (mkF m pc L (.int y :: .int x :: S)) := by
  subst hp hz; exact k.go fun _ q => XS.ishl A.1.here A.2.2.2.2.1 rfl (hb A.2.2.2.2.2.1 hd) rfl q
theorem f_ishr (A : WS p l e R s m args below meth c Z EL n0 own code ml bw vm T h locs cells slots) {x y : Int32} (hd : decode code pc = .ok (.ishr, 1)) (hp : pc + 1 = pc') (z : Int32) (hz : x >>> (y &&& 31) = z) (k : Wp p e below P T (mkF m pc' L (.int z :: S))) : Wp p e below P T (mkF m pc L (.int y :: .int x :: S)) := by
  subst hp hz; exact k.go fun _ q => XS.ishr A.1.here A.2.2.2.2.1 rfl (hb A.2.2.2.2.2.1 hd) rfl q
theorem f_iushr (A : WS p l e R s m args below meth c Z EL n0 own code ml bw vm T h locs cells slots) {x y : Int32} (hd : decode code pc = .ok (.iushr, 1)) (hp : pc + 1 = pc') (z : Int32) (hz : (x.toUInt32 >>> (y &&& 31).toUInt32).toInt32 = z) (k : Wp p e below P T (mkF m pc' L (.int z :: S))) : Wp p e below P T (mkF m pc L (.int y :: .int x :: S)) := by
  subst hp hz; exact k.go fun _ q => XS.iushr A.1.here A.2.2.2.2.1 rfl (hb A.2.2.2.2.2.1 hd) rfl q
theorem f_ladd (A : WS p l e R s m args below meth c Z EL n0 own code ml bw vm T h locs cells slots) {x y : Int64} (hd : decode code pc = .ok (.ladd, 1)) (hp : pc + 1 = pc') (z : Int64) (hz : x + y = z) (k : Wp p e below P T (mkF m pc' L (.long z :: S))) : Wp p e below P T (mkF m pc L (.long y :: .long x :: S)) := by
  subst hp hz; exact k.go fun _ q => XS.ladd A.1.here A.2.2.2.2.1 rfl (hb A.2.2.2.2.2.1 hd) rfl q
theorem f_lsub (A : WS p l e R s m args below meth c Z EL n0 own code ml bw vm T h locs cells slots) {x y : Int64} (hd : decode code pc = .ok (.lsub, 1)) (hp : pc + 1 = pc') (z : Int64) (hz : x - y = z) (k : Wp p e below P T (mkF m pc' L (.long z :: S))) : Wp p e below P T (mkF m pc L (.long y :: .long x :: S)) := by
  subst hp hz; exact k.go fun _ q => XS.lsub A.1.here A.2.2.2.2.1 rfl (hb A.2.2.2.2.2.1 hd) rfl q
theorem f_lmul (A : WS p l e R s m args below meth c Z EL n0 own code ml bw vm T h locs cells slots) {x y : Int64} (hd : decode code pc = .ok (.lmul, 1)) (hp : pc + 1 = pc') (z : Int64) (hz : x * y = z) (k : Wp p e below P T (mkF m pc' L (.long z :: S))) : Wp p e below P T (mkF m pc L (.long y :: .long x :: S)) := by
  subst hp hz; exact k.go fun _ q => XS.lmul A.1.here A.2.2.2.2.1 rfl (hb A.2.2.2.2.2.1 hd) rfl q
theorem f_land (A : WS p l e R s m args below meth c Z EL n0 own code ml bw vm T h locs cells slots) {x y : Int64} (hd : decode code pc = .ok (.land, 1)) (hp : pc + 1 = pc') (z : Int64) (hz : x &&& y = z) (k : Wp p e below P T (mkF m pc' L (.long z :: S))) : Wp p e below P T (mkF m pc L (.long y :: .long x :: S)) := by
  subst hp hz; exact k.go fun _ q => XS.land A.1.here A.2.2.2.2.1 rfl (hb A.2.2.2.2.2.1 hd) rfl q
theorem f_lor (A : WS p l e R s m args below meth c Z EL n0 own code ml bw vm T h locs cells slots) {x y : Int64} (hd : decode code pc = .ok (.lor, 1)) (hp : pc + 1 = pc') (z : Int64) (hz : x ||| y = z) (k : Wp p e below P T (mkF m pc' L (.long z :: S))) : Wp p e below P T (mkF m pc L (.long y :: .long x :: S)) := by
  subst hp hz; exact k.go fun _ q => XS.lor A.1.here A.2.2.2.2.1 rfl (hb A.2.2.2.2.2.1 hd) rfl q
theorem f_lxor (A : WS p l e R s m args below meth c Z EL n0 own code ml bw vm T h locs cells slots) {x y : Int64} (hd : decode code pc = .ok (.lxor, 1)) (hp : pc + 1 = pc') (z : Int64) (hz : x ^^^ y = z) (k : Wp p e below P T (mkF m pc' L (.long z :: S))) : Wp p e below P T (mkF m pc L (.long y :: .long x :: S)) := by
  subst hp hz; exact k.go fun _ q => XS.lxor A.1.here A.2.2.2.2.1 rfl (hb A.2.2.2.2.2.1 hd) rfl q
theorem f_lshl (A : WS p l e R s m args below meth c Z EL n0 own code ml bw vm T h locs cells slots) {x : Int64} {y : Int32} (hd : decode code pc = .ok (.lshl, 1)) (hp : pc + 1 = pc') (z : Int64) (hz : x <<< (y &&& 63).toInt64 = z) (k : Wp p e below P T (mkF m pc' L (.long z :: S))) : Wp p e below P T (mkF m pc L (.int y :: .long x :: S)) := by
  subst hp hz; exact k.go fun _ q => XS.lshl A.1.here A.2.2.2.2.1 rfl (hb A.2.2.2.2.2.1 hd) rfl q
theorem f_lshr (A : WS p l e R s m args below meth c Z EL n0 own code ml bw vm T h locs cells slots) {x : Int64} {y : Int32} (hd : decode code pc = .ok (.lshr, 1)) (hp : pc + 1 = pc') (z : Int64) (hz : x >>> (y &&& 63).toInt64 = z) (k : Wp p e below P T (mkF m pc' L (.long z :: S))) : Wp p e below P T (mkF m pc L (.int y :: .long x :: S)) := by
  subst hp hz; exact k.go fun _ q => XS.lshr A.1.here A.2.2.2.2.1 rfl (hb A.2.2.2.2.2.1 hd) rfl q
theorem f_lushr (A : WS p l e R s m args below meth c Z EL n0 own code ml bw vm T h locs cells slots) {x : Int64} {y : Int32} (hd : decode code pc = .ok (.lushr, 1)) (hp : pc + 1 = pc') (z : Int64) (hz : (x.toUInt64 >>> (y &&& 0x3f).toInt64.toUInt64).toInt64 = z) (k : Wp p e below P T (mkF m pc' L (.long z :: S))) : Wp p e below P T (mkF m pc L (.int y :: .long x :: S)) := by
  subst hp hz; exact k.go fun _ q => XS.lushr A.1.here A.2.2.2.2.1 rfl (hb A.2.2.2.2.2.1 hd) rfl q
theorem f_idiv (A : WS p l e R s m args below meth c Z EL n0 own code ml bw vm T h locs cells slots) {x y : Int32} (hd : decode code pc = .ok (.idiv, 1)) (hp : pc + 1 = pc') (hy : y ≠ 0) (z : Int32) (hz : x / y = z) (k : Wp p e below P T (mkF m pc' L (.int z :: S))) : Wp p e below P T (mkF m pc L (.int y :: .int x :: S)) := by
  subst hp hz; exact k.go fun _ q => XS.idiv A.1.here A.2.2.2.2.1 rfl (hb A.2.2.2.2.2.1 hd) rfl hy q
theorem f_ldiv (A : WS p l e R s m args below meth c Z EL n0 own code ml bw vm T h locs cells slots) {x y : Int64} (hd : decode code pc = .ok (.ldiv, 1)) (hp : pc + 1 = pc') (hy : y ≠ 0) (z : Int64) (hz : x / y = z) (k : Wp p e below P T (mkF m pc' L (.long z :: S))) : Wp p e below P T (mkF m pc L (.long y :: .long x :: S)) := by
  subst hp hz; exact k.go fun _ q => XS.ldiv A.1.here A.2.2.2.2.1 rfl (hb A.2.2.2.2.2.1 hd) rfl hy q
theorem f_irem (A : WS p l e R s m args below meth c Z EL n0 own code ml bw vm T h locs cells slots) {x y : Int32} (hd : decode code pc = .ok (.irem, 1)) (hp : pc + 1 = pc') (hy : y ≠ 0) (z : Int32) (hz : x % y = z) (k : Wp p e below P T (mkF m pc' L (.int z :: S))) : Wp p e below P T (mkF m pc L (.int y :: .int x :: S)) := by
  subst hp hz; exact k.go fun _ q => iremM A.1 A.2.2.2.2.1 rfl (hb A.2.2.2.2.2.1 hd) rfl hy q
theorem f_lrem (A : WS p l e R s m args below meth c Z EL n0 own code ml bw vm T h locs cells slots) {x y : Int64} (hd : decode code pc = .ok (.lrem, 1)) (hp : pc + 1 = pc') (hy : y ≠ 0) (z : Int64) (hz : x % y = z) (k : Wp p e below P T (mkF m pc' L (.long z :: S))) : Wp p e below P T (mkF m pc L (.long y :: .long x :: S)) := by
  subst hp hz; exact k.go fun _ q => XS.lrem A.1.here A.2.2.2.2.1 rfl (hb A.2.2.2.2.2.1 hd) rfl hy (by rw [lrem_mod]; exact q)
theorem f_ineg (A : WS p l e R s m args below meth c Z EL n0 own code ml bw vm T h locs cells slots) {x : Int32} (hd : decode code pc = .ok (.ineg, 1)) (hp : pc + 1 = pc') (z : Int32) (hz : -x = z) (k : Wp p e below P T (mkF m pc' L (.int z :: S))) : Wp p e below P T (mkF m pc L (.int x :: S)) := by
  subst hp hz; exact k.go fun _ q => XS.ineg A.1.here A.2.2.2.2.1 rfl (hb A.2.2.2.2.2.1 hd) rfl q
theorem f_lneg (A : WS p l e R s m args below meth c Z EL n0 own code ml bw vm T h locs cells slots) {x : Int64} (hd : decode code pc = .ok (.lneg, 1)) (hp : pc + 1 = pc') (z : Int64) (hz : -x = z) (k : Wp p e below P T (mkF m pc' L (.long z :: S))) : Wp p e below P T (mkF m pc L (.long x :: S)) := by
  subst hp hz; exact k.go fun _ q => XS.lneg A.1.here A.2.2.2.2.1 rfl (hb A.2.2.2.2.2.1 hd) rfl q
theorem f_i2l (A : WS p l e R s m args below meth c Z EL n0 own code ml bw vm T h locs cells slots) {x : Int32} (hd : decode code pc = .ok (.i2l, 1)) (hp : pc + 1 = pc') (z : Int64) (hz : x.toInt64 = z) (k : Wp p e below P T (mkF m pc' L (.long z :: S))) : Wp p e below P T (mkF m pc L (.int x :: S)) := by
  subst hp hz; exact k.go fun _ q => XS.i2l A.1.here A.2.2.2.2.1 rfl (hb A.2.2.2.2.2.1 hd) rfl q
theorem f_l2i (A : WS p l e R s m args below meth c Z EL n0 own code ml bw vm T h locs cells slots) {x : Int64} (hd : decode code pc = .ok (.l2i, 1)) (hp : pc + 1 = pc') (z : Int32) (hz : x.toInt32 = z) (k : Wp p e below P T (mkF m pc' L (.int z :: S))) : Wp p e below P T (mkF m pc L (.long x :: S)) := by
  subst hp hz; exact k.go fun _ q => XS.l2i A.1.here A.2.2.2.2.1 rfl (hb A.2.2.2.2.2.1 hd) rfl q
theorem f_i2b (A : WS p l e R s m args below meth c Z EL n0 own code ml bw vm T h locs cells slots) {x : Int32} (hd : decode code pc = .ok (.i2b, 1)) (hp : pc + 1 = pc') (z : Int32) (hz : x.toInt8.toInt32 = z) (k : Wp p e below P T (mkF m pc' L (.int z :: S))) : Wp p e below P T (mkF m pc L (.int x :: S)) := by
  subst hp hz; exact k.go fun _ q => XS.i2b A.1.here A.2.2.2.2.1 rfl (hb A.2.2.2.2.2.1 hd) rfl q
theorem f_i2c (A : WS p l e R s m args below meth c Z EL n0 own code ml bw vm T h locs cells slots) {x : Int32} (hd : decode code pc = .ok (.i2c, 1)) (hp : pc + 1 = pc') (z : Int32) (hz : x.toUInt32.toUInt16.toUInt32.toInt32 = z) (k : Wp p e below P T (mkF m pc' L (.int z :: S))) : Wp p e below P T (mkF m pc L (.int x :: S)) := by
  subst hp hz; exact k.go fun _ q => XS.i2c A.1.here A.2.2.2.2.1 rfl (hb A.2.2.2.2.2.1 hd) rfl q
theorem f_i2s (A : WS p l e R s m args below meth c Z EL n0 own code ml bw vm T h locs cells slots) {x : Int32} (hd : decode code pc = .ok (.i2s, 1)) (hp : pc + 1 = pc') (z : Int32) (hz : x.toInt16.toInt32 = z) (k : Wp p e below P T (mkF m pc' L (.int z :: S))) : Wp p e below P T (mkF m pc L (.int x :: S)) := by
  subst hp hz; exact k.go fun _ q => XS.i2s A.1.here A.2.2.2.2.1 rfl (hb A.2.2.2.2.2.1 hd) rfl q
theorem f_lcmp (A : WS p l e R s m args below meth c Z EL n0 own code ml bw vm T h locs cells slots) {x y : Int64} (hd : decode code pc = .ok (.lcmp, 1)) (hp : pc + 1 = pc') (z : Int32) (hz : lcmpW x y = z) (k : Wp p e below P T (mkF m pc' L (.int z :: S))) : Wp p e below P T (mkF m pc L (.long y :: .long x :: S)) := by
  subst hp hz; exact k.go fun _ q => XS.lcmp A.1.here A.2.2.2.2.1 rfl (hb A.2.2.2.2.2.1 hd) rfl q
theorem f_iinc (A : WS p l e R s m args below meth c Z EL n0 own code ml bw vm T h locs cells slots) {i : Nat} {d : Int} {x : Int32} {L' : Array Slot} (hd : decode code pc = .ok (.iinc i d, 3)) (hp : pc + 3 = pc') (hl : L[i]? = some (.val (.int x))) (z : Int32) (hz : x + Int32.ofInt d = z) (hs : storeLocals L i (.int z) = some L') (k : Wp p e below P T (mkF m pc' L' S)) : Wp p e below P T (mkF m pc L S) := by
  subst hp hz; exact k.go fun _ q => XS.iinc A.1.here A.2.2.2.2.1 rfl (hb A.2.2.2.2.2.1 hd) hl hs q
theorem f_dup (A : WS p l e R s m args below meth c Z EL n0 own code ml bw vm T h locs cells slots) {x : Value} (hd : decode code pc = .ok (.dup, 1)) (hp : pc + 1 = pc') (hc : x.category = 1) (k : Wp p e below P T (mkF m pc' L (x :: x :: S))) : Wp p e below P T (mkF m pc L (x :: S)) := by
  subst hp; exact k.go fun _ q => XS.dup A.1.here A.2.2.2.2.1 rfl (hb A.2.2.2.2.2.1 hd) rfl hc q
theorem f_pop (A : WS p l e R s m args below meth c Z EL n0 own code ml bw vm T h locs cells slots) {x : Value} (hd : decode code pc = .ok (.pop, 1)) (hp : pc + 1 = pc') (hc : x.category = 1) (k : Wp p e below P T (mkF m pc' L S)) : Wp p e below P T (mkF m pc L (x :: S)) := by
  subst hp; exact k.go fun _ q => XS.pop A.1.here A.2.2.2.2.1 rfl (hb A.2.2.2.2.2.1 hd) rfl hc q
theorem f_dup_x1 (A : WS p l e R s m args below meth c Z EL n0 own code ml bw vm T h locs cells slots) {x y : Value} (hd : decode code pc = .ok (.dup_x1, 1)) (hp : pc + 1 = pc') (hc : x.category = 1) (hc' : y.category = 1) (k : Wp p e below P T (mkF m pc' L (x :: y :: x :: S))) : Wp p e below P T (mkF m pc L (x :: y :: S)) := by
  subst hp; exact k.go fun _ q => XS.dupX1 A.1.here A.2.2.2.2.1 rfl (hb A.2.2.2.2.2.1 hd) rfl hc hc' q
theorem f_goto (A : WS p l e R s m args below meth c Z EL n0 own code ml bw vm T h locs cells slots) {o : Int} (hd : decode code pc = .ok (.goto o, 3)) (ho : 0 ≤ (pc : Int) + o) (hp : ((pc : Int) + o).toNat = pc') (k : Wp p e below P T (mkF m pc' L S)) : Wp p e below P T (mkF m pc L S) := by
  exact k.go fun _ q => XS.goto A.1.here A.2.2.2.2.1 rfl (pc0 := pc) rfl (hb A.2.2.2.2.2.1 hd) ho hp q
theorem f_ifY (A : WS p l e R s m args below meth c Z EL n0 own code ml bw vm T h locs cells slots) {cd : ClassFile.Cond} {o : Int} {x : Int32} (hd : decode code pc = .ok (.ifCond cd o, 3)) (hc : ifCond.holds cd x = true) (ho : 0 ≤ (pc : Int) + o) (hp : ((pc : Int) + o).toNat = pc') (k : Wp p e below P T (mkF m pc' L S)) : Wp p e below P T (mkF m pc L (.int x :: S)) := by
  exact k.go fun _ q => XS.ifYes A.1.here A.2.2.2.2.1 rfl (pc0 := pc) rfl (hb A.2.2.2.2.2.1 hd) rfl hc ho hp q
theorem f_ifN (A : WS p l e R s m args below meth c Z EL n0 own code ml bw vm T h locs cells slots) {cd : ClassFile.Cond} {o : Int} {x : Int32} (hd : decode code pc = .ok (.ifCond cd o, 3)) (hc : ifCond.holds cd x = false) (hp : pc + 3 = pc') (k : Wp p e below P T (mkF m pc' L S)) : Wp p e below P T (mkF m pc L (.int x :: S)) := by
  subst hp; exact k.go fun _ q => XS.ifNo A.1.here A.2.2.2.2.1 rfl (hb A.2.2.2.2.2.1 hd) rfl hc q
theorem f_icY (A : WS p l e R s m args below meth c Z EL n0 own code ml bw vm T h locs cells slots) {cd : ClassFile.Cond} {o : Int} {x y : Int32} (hd : decode code pc = .ok (.if_icmp cd o, 3)) (hc : if_icmp.holds cd x y = true) (ho : 0 ≤ (pc : Int) + o) (hp : ((pc : Int) + o).toNat = pc') (k : Wp p e below P T (mkF m pc' L S)) : Wp p e below P T (mkF m pc L (.int y :: .int x :: S)) := by
  exact k.go fun _ q => XS.icmpYes A.1.here A.2.2.2.2.1 rfl (pc0 := pc) rfl (hb A.2.2.2.2.2.1 hd) rfl hc ho hp q
theorem f_icN (A : WS p l e R s m args below meth c Z EL n0 own code ml bw vm T h locs cells slots) {cd : ClassFile.Cond} {o : Int} {x y : Int32} (hd : decode code pc = .ok (.if_icmp cd o, 3)) (hc : if_icmp.holds cd x y = false) (hp : pc + 3 = pc') (k : Wp p e below P T (mkF m pc' L S)) : Wp p e below P T (mkF m pc L (.int y :: .int x :: S)) := by
  subst hp; exact k.go fun _ q => XS.icmpNo A.1.here A.2.2.2.2.1 rfl (hb A.2.2.2.2.2.1 hd) rfl hc q
theorem f_nullY (A : WS p l e R s m args below meth c Z EL n0 own code ml bw vm T h locs cells slots) {o : Int} (hd : decode code pc = .ok (.ifnull o, 3)) (ho : 0 ≤ (pc : Int) + o) (hp : ((pc : Int) + o).toNat = pc') (k : Wp p e below P T (mkF m pc' L S)) : Wp p e below P T (mkF m pc L (.null :: S)) := by
  exact k.go fun _ q => XS.ifnullYes A.1.here A.2.2.2.2.1 rfl (pc0 := pc) rfl (hb A.2.2.2.2.2.1 hd) rfl ho hp q
theorem f_nullN (A : WS p l e R s m args below meth c Z EL n0 own code ml bw vm T h locs cells slots) {o : Int} {b : Addr} (hd : decode code pc = .ok (.ifnull o, 3)) (hp : pc + 3 = pc') (k : Wp p e below P T (mkF m pc' L S)) : Wp p e below P T (mkF m pc L (.ref b :: S)) := by
  subst hp; exact k.go fun _ q => XS.ifnullNo A.1.here A.2.2.2.2.1 rfl (hb A.2.2.2.2.2.1 hd) rfl q
theorem f_nonY (A : WS p l e R s m args below meth c Z EL n0 own code ml bw vm T h locs cells slots) {o : Int} {b : Addr} (hd : decode code pc = .ok (.ifnonnull o, 3)) (ho : 0 ≤ (pc : Int) + o) (hp : ((pc : Int) + o).toNat = pc') (k : Wp p e below P T (mkF m pc' L S)) : Wp p e below P T (mkF m pc L (.ref b :: S)) := by
  exact k.go fun _ q => XS.ifnonnullYes A.1.here A.2.2.2.2.1 rfl (pc0 := pc) rfl (hb A.2.2.2.2.2.1 hd) rfl ho hp q
theorem f_nonN (A : WS p l e R s m args below meth c Z EL n0 own code ml bw vm T h locs cells slots) {o : Int} (hd : decode code pc = .ok (.ifnonnull o, 3)) (hp : pc + 3 = pc') (k : Wp p e below P T (mkF m pc' L S)) : Wp p e below P T (mkF m pc L (.null :: S)) := by
  subst hp; exact k.go fun _ q => XS.ifnonnullNo A.1.here A.2.2.2.2.1 rfl (hb A.2.2.2.2.2.1 hd) rfl q
theorem f_acmp (A : WS p l e R s m args below meth c Z EL n0 own code ml bw vm T h locs cells slots) {cd : ACond} {o : Int} {x y : Value} (h1 : x.isRef = true) (h2 : y.isRef = true) (hd : decode code pc = .ok (.if_acmp cd o, 3)) (same : Bool) (hq : decide (x = y) = same) (ho : 0 ≤ (pc : Int) + o) (hp : pc' = if acV cd same = true then ((pc : Int) + o).toNat else pc + 3) (k : Wp p e below P T (mkF m pc' L S)) : Wp p e below P T (mkF m pc L (y :: x :: S)) := by
  exact k.go fun _ q => Jvm.RoadKit.acmp A.1 A.2.2.2.2.1 rfl h1 h2 (pc0 := pc) rfl (hb A.2.2.2.2.2.1 hd) rfl hq ho hp q
theorem f_new (A : WS p l e R s m args below meth c Z EL n0 own code ml bw vm T h locs cells slots) {C : String} {i n : Nat} (hd : decode code pc = .ok (.new i, 3)) (hp : pc + 3 = pc') (w : (Cond.classLink own i C).before a0 Z = true) (wi : (Cond.instantiable C n).before a0 Z = true) (wz : (Cond.initialized C).before a0 Z = true) (hc : cells + 1 ≤ R.cells) (hl : slots + n ≤ R.slots)
    (k : ∀ (a : Addr) (T' : State) (h' : Heap), a = h.size → WS p l e R s m args below meth c Z EL n0 own code ml bw vm T' h' locs (cells + 1) (slots + n) → Ext h h' → Exa Z h' a C → (∀ {O nm d : String} {ty : FieldType}, Laid Z a0 C O nm d → parseFieldDescriptor d = some ty → Fld Z h' a O nm d (defaultValue ty)) → Wp p e below P T' (mkF m pc' L (.ref a :: S))) : Wp p e below P T (mkF m pc L S) := by
  subst hp
  obtain ⟨T', h', X', q, E, F, D, -, st⟩ := newO A.1 A.2.2.2.2.1 A.hZ A.2.2.2.1 w wi wz A.2.1 (g := mkF m pc L S) rfl (hb A.2.2.2.2.2.1 hd) hc hl
  exact (k _ T' h' rfl (A.grow X' q E) E F D).go st
theorem f_newP (A : WS p l e R s m args below meth c Z EL n0 own code ml bw vm T h locs cells slots) {aty : ArrayType} {z : Int32} (cap : Nat) (hd : decode code pc = .ok (.newarray aty, 2)) (hp : pc + 2 = pc') (w : (Cond.arrayClass (newarray.typeOf aty)).before a0 Z = true) (hn : ¬ z < 0) (hcap : z.toNatClampNeg ≤ cap) (hb8 : cap * 8 ≤ 536870912) (hc : cells + 1 ≤ R.cells) (hl : slots + cap ≤ R.slots) {ad : String} (had : "[" ++ (newarray.typeOf aty).toString = ad)
    (k : ∀ (a : Addr) (T' : State) (h' : Heap) (kA : ClassId), a = h.size → WS p l e R s m args below meth c Z EL n0 own code ml bw vm T' h' locs (cells + 1) (slots + cap) → Ext h h' → Arv Z h' a kA (newarray.typeOf aty) z [] (defaultValue (newarray.typeOf aty)) → Exa Z h' a ad → Wp p e below P T' (mkF m pc' L (.ref a :: S))) : Wp p e below P T (mkF m pc L (.int z :: S)) := by
  subst hp
  obtain ⟨T', h', kA, X', q, E, F, G, st⟩ := newPE A.1 A.2.2.2.2.1 A.hZ w A.2.1 (g := mkF m pc L (.int z :: S)) rfl (hb A.2.2.2.2.2.1 hd) rfl hn hcap hb8 hc hl had
  exact (k _ T' h' kA rfl (A.grow X' q E) E (Arv.new F hn) G).go st
theorem f_getF (A : WS p l e R s m args below meth c Z EL n0 own code ml bw vm T h locs cells slots) {R0 O n d host : String} {i : Nat} {a : Addr} {v : Value} (hd : decode code pc = .ok (.getfield i, 3)) (hp : pc + 3 = pc') (w : (Cond.fieldLink own i R0 n d).before a0 Z = true ∨ (Cond.fieldLinkNest own i R0 n d host).before a0 Z = true) (via : Via Z R0 O n d) (F : Fld Z h a O n d v)
    (k : ∀ (T' : State), WS p l e R s m args below meth c Z EL n0 own code ml bw vm T' h locs cells slots → Wp p e below P T' (mkF m pc' L (v :: S))) : Wp p e below P T (mkF m pc L (.ref a :: S)) := by
  subst hp
  obtain ⟨T', X', q, st⟩ := getF A.1 A.2.2.2.2.1 A.hZ A.2.2.2.1 w via A.2.1 F (g := mkF m pc L (.ref a :: S)) rfl rfl (hb A.2.2.2.2.2.1 hd)
  exact (k T' (A.still X' q)).go st
theorem f_getS (A : WS p l e R s m args below meth c Z EL n0 own code ml bw vm T h locs cells slots) {R0 O n d host : String} {i : Nat} {v : Value} (hd : decode code pc = .ok (.getstatic i, 3)) (hp : pc + 3 = pc') (w : (Cond.fieldLink own i R0 n d).before a0 Z = true ∨ (Cond.fieldLinkNest own i R0 n d host).before a0 Z = true) (via : Via Z R0 O n d) (F : Sta Z Z.heap O n d v)
    (k : ∀ (T' : State), WS p l e R s m args below meth c Z EL n0 own code ml bw vm T' h locs cells slots → Wp p e below P T' (mkF m pc' L (v :: S))) : Wp p e below P T (mkF m pc L S) := by
  subst hp
  obtain ⟨T', X', q, st⟩ := getS2 A.1 A.2.2.2.2.1 A.hZ A.2.2.2.1 w via A.2.1 (F.ext A.old.2) (g := mkF m pc L S) rfl (hb A.2.2.2.2.2.1 hd)
  exact (k T' (A.still X' q)).go st
theorem f_putF (A : WS p l e R s m args below meth c Z EL n0 own code ml bw vm T h locs cells slots) {R0 O n d C : String} {i kk : Nat} {ty : FieldType} {a : Addr} {v old : Value} (v' : Value) (hd : decode code pc = .ok (.putfield i, 3)) (hp : pc + 3 = pc') (w : (Cond.fieldLink own i R0 n d).before a0 Z = true) (via : Via Z R0 O n d) (F : Fld Z h a O n d old) (E : Exa Z h a C)
    (wl : (Cond.lays C O n d).before a0 Z = true ∨ ((Cond.laysFinal C O n d).before a0 Z = true ∧ own = O ∧ meth.name = "<init>")) (wi : (Cond.instantiable C kk).before a0 Z = true) (hty : parseFieldDescriptor d = some ty) (hn : narrow ty v = v') (hf : fits ty v' = true) (ga : n0 ≤ a) (sf : bw = true → Safe Z EL vm h a)
    (k : ∀ (T' : State) (h' : Heap), WS p l e R s m args below meth c Z EL n0 own code ml bw vm T' h' (locs ++ [⟨a, Jvm.RoadKit.slotOf Z O n d⟩]) cells slots → Wr h h' a (Jvm.RoadKit.slotOf Z O n d) v' → Keep h h' [a] → Exa Z h' a C → Fld Z h' a O n d v' → Wp p e below P T' (mkF m pc' L S)) : Wp p e below P T (mkF m pc L (v :: .ref a :: S)) := by
  subst hp
  obtain ⟨T', h', X', q, W, st⟩ := putFN A.1 A.2.2.2.2.1 A.hZ A.2.2.2.1 w via A.2.1 F E wl wi hty hn hf (g := mkF m pc L (v :: .ref a :: S)) rfl rfl (hb A.2.2.2.2.2.1 hd)
  exact (k T' h' (A.kept X' q (Fr.snoc X' A.2.2.2.2.2.2.2.1 ga) (Keep.of_wr W) (allS ga all0) (fun b => sfS (sf b) sf0)) W (Keep.of_wr W) (E.wr W) (F.same W)).go st
theorem f_castore (A : WS p l e R s m args below meth c Z EL n0 own code ml bw vm T h locs cells slots) {a : Addr} {kA : ClassId} {z j x : Int32} {vs vs' : List Value} {dv : Value} (hd : decode code pc = .ok (.castore, 1)) (hp : pc + 1 = pc') (F : Arv Z h a kA .char z vs dv) (hj : ¬ j < 0 ∧ j < z) (i : Nat) (hi : j.toNatClampNeg = i) (hl : i < vs.length) (v : Int32) (hv : nar .char x = v) (hs : vs.set i (.int v) = vs') (ga : n0 ≤ a) (sf : bw = true → Safe Z EL vm h a)
    (k : ∀ (T' : State) (h' : Heap), WS p l e R s m args below meth c Z EL n0 own code ml bw vm T' h' (locs ++ [⟨a, j.toNatClampNeg⟩]) cells slots → Keep h h' [a] → Arv Z h' a kA .char z vs' dv → Wp p e below P T' (mkF m pc' L S)) : Wp p e below P T (mkF m pc L (.int x :: .int j :: .ref a :: S)) := by
  subst hp hs hv
  obtain ⟨cl, Ar, q1, Sz, q3, H, G⟩ := F
  obtain ⟨T', h', X', q, W, st⟩ := stC A.1 A.2.2.2.2.1 A.hZ A.2.1 Ar (j := j) (inb_of Sz hj) (g := mkF m pc L (.int x :: .int j :: .ref a :: S)) rfl rfl (hb A.2.2.2.2.2.1 hd)
  exact (k T' h' (A.kept X' q (Fr.snoc X' A.2.2.2.2.2.2.2.1 ga) (Keep.of_wr W) (allS ga all0) (fun b => sfS (sf b) sf0)) (Keep.of_wr W) (Arv.set Ar q1 Sz q3 H G (fits_nar_char x) W i hi hl)).go st
theorem f_bastore (A : WS p l e R s m args below meth c Z EL n0 own code ml bw vm T h locs cells slots) {a : Addr} {kA : ClassId} {z j x : Int32} {vs vs' : List Value} {dv : Value} (hd : decode code pc = .ok (.bastore, 1)) (hp : pc + 1 = pc') (F : Arv Z h a kA .byte z vs dv) (hj : ¬ j < 0 ∧ j < z) (i : Nat) (hi : j.toNatClampNeg = i) (hl : i < vs.length) (v : Int32) (hv : x.toInt8.toInt32 = v) (hs : vs.set i (.int v) = vs') (ga : n0 ≤ a) (sf : bw = true → Safe Z EL vm h a)
    (k : ∀ (T' : State) (h' : Heap), WS p l e R s m args below meth c Z EL n0 own code ml bw vm T' h' (locs ++ [⟨a, j.toNatClampNeg⟩]) cells slots → Keep h h' [a] → Arv Z h' a kA .byte z vs' dv → Wp p e below P T' (mkF m pc' L S)) : Wp p e below P T (mkF m pc L (.int x :: .int j :: .ref a :: S)) := by
  subst hp hs hv
  obtain ⟨cl, Ar, q1, Sz, q3, H, G⟩ := F
  obtain ⟨T', h', X', q, W, st⟩ := stB A.1 A.2.2.2.2.1 A.hZ A.2.1 Ar (j := j) (inb_of Sz hj) (g := mkF m pc L (.int x :: .int j :: .ref a :: S)) rfl rfl (hb A.2.2.2.2.2.1 hd)
  exact (k T' h' (A.kept X' q (Fr.snoc X' A.2.2.2.2.2.2.2.1 ga) (Keep.of_wr W) (allS ga all0) (fun b => sfS (sf b) sf0)) (Keep.of_wr W) (Arv.set Ar q1 Sz q3 H G (fits_nar_byte x) W i hi hl)).go st
theorem f_iastore (A : WS p l e R s m args below meth c Z EL n0 own code ml bw vm T h locs cells slots) {a : Addr} {kA : ClassId} {z j x : Int32} {vs vs' : List Value} {dv : Value} (hd : decode code pc = .ok (.iastore, 1)) (hp : pc + 1 = pc') (F : Arv Z h a kA .int z vs dv) (hj : ¬ j < 0 ∧ j < z) (i : Nat) (hi : j.toNatClampNeg = i) (hl : i < vs.length) (v : Int32) (hv : x = v) (hs : vs.set i (.int v) = vs') (ga : n0 ≤ a) (sf : bw = true → Safe Z EL vm h a)
    (k : ∀ (T' : State) (h' : Heap), WS p l e R s m args below meth c Z EL n0 own code ml bw vm T' h' (locs ++ [⟨a, j.toNatClampNeg⟩]) cells slots → Keep h h' [a] → Arv Z h' a kA .int z vs' dv → Wp p e below P T' (mkF m pc' L S)) : Wp p e below P T (mkF m pc L (.int x :: .int j :: .ref a :: S)) := by
  subst hp hs hv
  obtain ⟨cl, Ar, q1, Sz, q3, H, G⟩ := F
  obtain ⟨T', h', X', q, W, st⟩ := stI A.1 A.2.2.2.2.1 A.hZ A.2.1 Ar (j := j) (inb_of Sz hj) (g := mkF m pc L (.int x :: .int j :: .ref a :: S)) rfl rfl (hb A.2.2.2.2.2.1 hd)
  exact (k T' h' (A.kept X' q (Fr.snoc X' A.2.2.2.2.2.2.2.1 ga) (Keep.of_wr W) (allS ga all0) (fun b => sfS (sf b) sf0)) (Keep.of_wr W) (Arv.set Ar q1 Sz q3 H G rfl W i hi hl)).go st
theorem f_caload (A : WS p l e R s m args below meth c Z EL n0 own code ml bw vm T h locs cells slots) {a : Addr} {kA : ClassId} {z j : Int32} {vs : List Value} {dv v : Value} (hd : decode code pc = .ok (.caload, 1)) (hp : pc + 1 = pc') (F : Arv Z h a kA .char z vs dv) (hj : ¬ j < 0 ∧ j < z) (hv : vs.getD j.toNatClampNeg dv = v) (k : Wp p e below P T (mkF m pc' L (v :: S))) : Wp p e below P T (mkF m pc L (.int j :: .ref a :: S)) := by
  subst hp
  obtain ⟨cl, Ar, q1, Sz, q3, H, G⟩ := F
  exact k.go fun t q => A.1.caload A.2.2.2.2.1 (j := j) (v := v) (by rw [A.2.1]; exact Ar.1) (State.isArrayOf_alike A.hZ.alike Ar.2.1) Ar.2.2 (inb_of Sz hj) (H.at (inb_of Sz hj) hv) (g := mkF m pc L (.int j :: .ref a :: S)) rfl rfl (hb A.2.2.2.2.2.1 hd) t q
theorem f_baload (A : WS p l e R s m args below meth c Z EL n0 own code ml bw vm T h locs cells slots) {a : Addr} {kA : ClassId} {z j : Int32} {vs : List Value} {dv v : Value} (hd : decode code pc = .ok (.baload, 1)) (hp : pc + 1 = pc') (F : Arv Z h a kA .byte z vs dv) (hj : ¬ j < 0 ∧ j < z) (hv : vs.getD j.toNatClampNeg dv = v) (k : Wp p e below P T (mkF m pc' L (v :: S))) : Wp p e below P T (mkF m pc L (.int j :: .ref a :: S)) := by
  subst hp
  obtain ⟨cl, Ar, q1, Sz, q3, H, G⟩ := F
  exact k.go fun t q => A.1.baloadBytes A.2.2.2.2.1 (j := j) (v := v) (by rw [A.2.1]; exact Ar.1) (State.isArrayOf_alike A.hZ.alike Ar.2.1) Ar.2.2 (inb_of Sz hj) (H.at (inb_of Sz hj) hv) (g := mkF m pc L (.int j :: .ref a :: S)) rfl rfl (hb A.2.2.2.2.2.1 hd) t q
theorem f_iaload (A : WS p l e R s m args below meth c Z EL n0 own code ml bw vm T h locs cells slots) {a : Addr} {kA : ClassId} {z j : Int32} {vs : List Value} {dv v : Value} (hd : decode code pc = .ok (.iaload, 1)) (hp : pc + 1 = pc') (F : Arv Z h a kA .int z vs dv) (hj : ¬ j < 0 ∧ j < z) (hv : vs.getD j.toNatClampNeg dv = v) (k : Wp p e below P T (mkF m pc' L (v :: S))) : Wp p e below P T (mkF m pc L (.int j :: .ref a :: S)) := by
  subst hp
  obtain ⟨cl, Ar, q1, Sz, q3, H, G⟩ := F
  exact k.go fun t q => A.1.iaload A.2.2.2.2.1 (j := j) (v := v) (by rw [A.2.1]; exact Ar.1) (State.isArrayOf_alike A.hZ.alike Ar.2.1) Ar.2.2 (inb_of Sz hj) (H.at (inb_of Sz hj) hv) (g := mkF m pc L (.int j :: .ref a :: S)) rfl rfl (hb A.2.2.2.2.2.1 hd) t q
theorem f_aaload (A : WS p l e R s m args below meth c Z EL n0 own code ml bw vm T h locs cells slots) {a : Addr} {kA : ClassId} {z j : Int32} {vs : List Value} {dv v : Value} {ty : FieldType} (hd : decode code pc = .ok (.aaload, 1)) (hp : pc + 1 = pc') (F : Arv Z h a kA ty z vs dv) (ht : ty.isReference = true) (hj : ¬ j < 0 ∧ j < z) (hv : vs.getD j.toNatClampNeg dv = v) (k : Wp p e below P T (mkF m pc' L (v :: S))) : Wp p e below P T (mkF m pc L (.int j :: .ref a :: S)) := by
  subst hp
  obtain ⟨cl, Ar, q1, Sz, q3, H, G⟩ := F
  exact k.go fun t q => A.1.aaload A.2.2.2.2.1 (j := j) (v := v) (by rw [A.2.1]; exact Ar.1) (State.isArrayOf_alike A.hZ.alike Ar.2.1) ht Ar.2.2 (inb_of Sz hj) (H.at (inb_of Sz hj) hv) (g := mkF m pc L (.int j :: .ref a :: S)) rfl rfl (hb A.2.2.2.2.2.1 hd) t q
theorem f_arraylength (A : WS p l e R s m args below meth c Z EL n0 own code ml bw vm T h locs cells slots) {a : Addr} {kA : ClassId} {z : Int32} {vs : List Value} {dv : Value} {ty : FieldType} (hd : decode code pc = .ok (.arraylength, 1)) (hp : pc + 1 = pc') (F : Arv Z h a kA ty z vs dv) (k : Wp p e below P T (mkF m pc' L (.int z :: S))) : Wp p e below P T (mkF m pc L (.ref a :: S)) := by
  subst hp
  obtain ⟨cl, Ar, q1, Sz, q3, -, -⟩ := F
  exact k.go fun t q => A.1.arraylength A.2.2.2.2.1 (by rw [A.2.1]; exact Ar.1) (State.isArrayOf_alike A.hZ.alike Ar.2.1) (g := mkF m pc L (.ref a :: S)) rfl rfl (hb A.2.2.2.2.2.1 hd) t (by rw [len_of Sz q3]; exact q)
theorem f_cast (A : WS p l e R s m args below meth c Z EL n0 own code ml bw vm T h locs cells slots) {K : String} {i : Nat} {a : Addr} (hd : decode code pc = .ok (.checkcast i, 3)) (hp : pc + 3 = pc') (w : (Cond.classLink own i K).before a0 Z = true) (F : Ins Z h a K true) (k : ∀ (T' : State), WS p l e R s m args below meth c Z EL n0 own code ml bw vm T' h locs cells slots → Wp p e below P T' (mkF m pc' L (.ref a :: S))) : Wp p e below P T (mkF m pc L (.ref a :: S)) := by
  subst hp
  obtain ⟨T', X', q, st⟩ := castY A.1 A.2.2.2.2.1 A.hZ A.2.2.2.1 w A.2.1 F (g := mkF m pc L (.ref a :: S)) rfl rfl (hb A.2.2.2.2.2.1 hd)
  exact (k T' (A.still X' q)).go st
theorem f_instY (A : WS p l e R s m args below meth c Z EL n0 own code ml bw vm T h locs cells slots) {K : String} {i : Nat} {a : Addr} (hd : decode code pc = .ok (.instanceof i, 3)) (hp : pc + 3 = pc') (w : (Cond.classLink own i K).before a0 Z = true) (F : Ins Z h a K true) (k : ∀ (T' : State), WS p l e R s m args below meth c Z EL n0 own code ml bw vm T' h locs cells slots → Wp p e below P T' (mkF m pc' L (.int 1 :: S))) : Wp p e below P T (mkF m pc L (.ref a :: S)) := by
  subst hp
  obtain ⟨T', X', q, st⟩ := instY A.1 A.2.2.2.2.1 A.hZ A.2.2.2.1 w A.2.1 F (g := mkF m pc L (.ref a :: S)) rfl rfl (hb A.2.2.2.2.2.1 hd)
  exact (k T' (A.still X' q)).go st
theorem f_initO (A : WS p l e R s m args below meth c Z EL n0 own code ml bw vm T h locs cells slots) {i W : Nat} {a : Addr} (hd : decode code pc = .ok (.invokespecial i, 3)) (hp : pc + 3 = pc') (w1 : (Cond.methodLink own i Lib.objectInit).before a0 Z = true) (w2 : (Cond.instanceMethod Lib.objectInit).before a0 Z = true) (w3 : (Cond.code Lib.objectInit ⟨#[0xb1]⟩ 1 none).before a0 Z = true) (hml : L.size = ml) (hf : 1 ≤ R.frames) (hW : (S.map fun v => v.category).sum ≤ W) (hl : W + 12 ≤ R.locals)
    (k : ∀ (T' : State), WS p l e R s m args below meth c Z EL n0 own code ml bw vm T' h locs cells slots → Wp p e below P T' (mkF m pc' L S)) : Wp p e below P T (mkF m pc L (.ref a :: S)) := by
  subst hp
  obtain ⟨T', X', q, st⟩ := initO A.1 A.2.2.2.2.1 A.hZ A.2.2.2.1 w1 w2 w3 A.2.1 (g := mkF m pc L (.ref a :: S)) rfl (hml.trans A.2.2.2.2.2.2.1.symm) rfl (hb A.2.2.2.2.2.1 hd) hf (W := W) (by show 2 * 0 + _ ≤ _; omega) hl
  exact (k T' (A.still X' q)).go st
theorem WS.wide (A : WS p l e R s m args below meth c Z EL n0 own code ml true vm T h locs cells slots) : (∃ k, s.Since vm k ∧ k ≤ h.size) ∧ CHr Z EL s.vm s.heap vm h := by
  obtain ⟨-, -, -, -, -, -, -, -, -, b⟩ := A
  rcases b with ⟨b, -⟩ | ⟨-, b⟩
  · cases b
  · exact b
theorem f_ldcO (A : WS p l e R s m args below meth c Z EL n0 own code ml true vm T h locs cells slots) {i : Nat} {text : String} (hd : decode code pc = .ok (.ldc i, 2)) (hp : pc + 2 = pc') (w : (Cond.stringLink own i text).before a0 Z = true) (wS : ∀ a ∈ Bundle.stringAtoms, a.before a0 Z = true) (hEL : EW Z a0 EL) {n : Nat} (hn : 4 * text.toList.length ≤ n) (hbig : n ≤ 536870912) (hc : cells + 2 ≤ R.cells) (hl' : slots + (n + 4) ≤ R.slots)
    (k : ∀ (a : Addr) (vm' : Vm) (T' : State) (h' : Heap), WS p l e R s m args below meth c Z EL n0 own code ml true vm' T' h' locs (cells + 2) (slots + (n + 4)) → Ext h h' → CHr Z EL vm h vm' h' → Lit (s.setVm vm') own i a → Wp p e below P T' (mkF m pc' L (.ref a :: S))) : Wp p e below P T (mkF m pc L S) := by
  subst hp
  obtain ⟨⟨k0, hS, hk⟩, hC⟩ := A.wide
  obtain ⟨a, T', h', k1, X', q, E, hS', hk', hZ', ho', hC', hL, st⟩ := ldcOH A.1 A.2.2.2.2.1 A.hZ A.2.2.2.1 w wS A.2.1 hS hk hEL hC.1 (g := mkF m pc L S) rfl (hb A.2.2.2.2.2.1 hd) hn hbig hc hl'
  exact (k a T'.vm T' h' ⟨X', q, hZ', ho', A.2.2.2.2.1, A.2.2.2.2.2.1, A.2.2.2.2.2.2.1, A.2.2.2.2.2.2.2.1, A.old.ext E, Or.inr ⟨rfl, ⟨k1, hS', hk'⟩, hC.trans hC'⟩⟩ E hC' hL).go st
theorem f_ldcC (A : WS p l e R s m args below meth c Z EL n0 own code ml true vm T h locs cells slots) {i : Nat} {text : String} {vs : List Value} {z : Int32} (hd : decode code pc = .ok (.ldc i, 2)) (hp : pc + 2 = pc') (hmem : (own, i) ∈ EL) (ht : (∀ c ∈ text.toList, c.toNat < 256) ∧ text.toList.map (fun c => Value.int (Jvm.Lit.byteI c.toNat.toUInt16)) = vs) (hz : ¬ z < 0) (hl : z.toNatClampNeg = vs.length) (w : (Cond.stringLink own i text).before a0 Z = true) (wS : ∀ a ∈ Bundle.stringAtoms, a.before a0 Z = true) (hEL : EW Z a0 EL) {n : Nat} (hn : 4 * text.toList.length ≤ n) (hbig : n ≤ 536870912) (hc : cells + 2 ≤ R.cells) (hl' : slots + (n + 4) ≤ R.slots)
    (k : ∀ (a b : Addr) (kb : ClassId) (vm' : Vm) (T' : State) (h' : Heap), WS p l e R s m args below meth c Z EL n0 own code ml true vm' T' h' locs (cells + 2) (slots + (n + 4)) → Ext h h' → CHr Z EL vm h vm' h' → Lit (s.setVm vm') own i a → Exa Z h' a "java/lang/String" → Fld Z h' a "java/lang/String" "coder" "B" (.int 0) → Fld Z h' a "java/lang/String" "value" "[B" (.ref b) → Arv Z h' b kb .byte z vs (.int 0) → (∀ x, Safe Z EL vm' h' x → x ≠ a ∧ x ≠ b) → Wp p e below P T' (mkF m pc' L (.ref a :: S))) : Wp p e below P T (mkF m pc L S) := by
  subst hp
  obtain ⟨⟨k0, hS, hk⟩, hC⟩ := A.wide
  obtain ⟨a, T', h', k1, b, kb, X', q, E, hS', hk', hZ', ho', g1, g2, g3, g4, -, -, hC', hL, hsf, st⟩ := ldcCH A.1 A.2.2.2.2.1 A.hZ A.2.2.2.1 w wS A.2.1 hS hk hEL hmem hC.1 ht hz hl (g := mkF m pc L S) rfl (hb A.2.2.2.2.2.1 hd) hn hbig hc hl'
  exact (k a b kb T'.vm T' h' ⟨X', q, hZ', ho', A.2.2.2.2.1, A.2.2.2.2.2.1, A.2.2.2.2.2.2.1, A.2.2.2.2.2.2.2.1, A.old.ext E, Or.inr ⟨rfl, ⟨k1, hS', hk'⟩, hC.trans hC'⟩⟩ E hC' hL g1 g2 g3 g4 hsf).go st
theorem f_ldcA (A : WS p l e R s m args below meth c Z EL n0 own code ml true vm T h locs cells slots) {i : Nat} {text : String} {a : Addr} (hd : decode code pc = .ok (.ldc i, 2)) (hp : pc + 2 = pc') (w : (Cond.stringLink own i text).before a0 Z = true) (hL : Lit (s.setVm vm) own i a) (k : Wp p e below P T (mkF m pc' L (.ref a :: S))) : Wp p e below P T (mkF m pc L S) := by
  subst hp
  exact k.go fun t q => ldcAgain A.1 A.2.2.2.2.1 A.hZ A.2.2.2.1 w hL (g := mkF m pc L S) rfl (hb A.2.2.2.2.2.1 hd) t q
/-- what a body that interns nothing promises -/
abbrev CN (l : Launch) (y : MethodName) (bytes : ByteArray) (maxL : Nat) (ret : Option FieldType) (ws : List Jvm.Cond) (rm : Room) (Z : State) (n0 : Nat) (h : Heap) (as' : Array Value) (wr : List Addr) (Q : Option Value → Heap → Prop) : Prop :=
  MetFree l y (head1 (Jvm.Cond.code y bytes maxL ret :: ws) rm) (fun a U => a = as' ∧ Z.Warmed39 U.vm ∧ U.heap = h) (fun _ _ _ _ _ => True) (fun _ U o U' => ∃ v L, o = .returned v ∧ (Fr n0 L ∧ Keep h U'.heap wr ∧ Q v U'.heap) ∧ FrameEnd U o U' L rm.cells rm.slots)
/-- what a body that may intern promises; SL: what it writes of the booked kinds -/
abbrev CW (l : Launch) (y : MethodName) (bytes : ByteArray) (maxL : Nat) (ret : Option FieldType) (ws : List Jvm.Cond) (rm : Room) (Z : State) (EL : List (String × Nat)) (SL : List Addr) (n0 : Nat) (h : Heap) (as' : Array Value) (wr : List Addr) (Q : Option Value → Heap → Prop) : Prop :=
  MetFree l y (head1 (Jvm.Cond.code y bytes maxL ret :: ws) rm) (fun a U => a = as' ∧ Z.Warmed39 U.vm ∧ U.heap = h ∧ CHv Z EL U.vm h ∧ ∀ x ∈ SL, Safe Z EL U.vm h x) (fun _ _ _ _ _ => True) (fun _ U o U' => ∃ v L, o = .returned v ∧ (Fr n0 L ∧ Keep h U'.heap wr ∧ Q v U'.heap) ∧ CHr Z EL U.vm U.heap U'.vm U'.heap ∧ ReturnedEndW U o U' L rm.cells rm.slots)
abbrev PN (s : State) (n0 : Nat) (h : Heap) (wr : List Addr) (Q : Option Value → Heap → Prop) (kc ks : Nat) : Outcome → State → Prop := fun o t => ∃ v L, o = .returned v ∧ (Fr n0 L ∧ Keep h t.heap wr ∧ Q v t.heap) ∧ FrameEnd s o t L kc ks
abbrev PW (s Z : State) (EL : List (String × Nat)) (n0 : Nat) (h : Heap) (wr : List Addr) (Q : Option Value → Heap → Prop) (kc ks : Nat) : Outcome → State → Prop := fun o t => ∃ v L, o = .returned v ∧ (Fr n0 L ∧ Keep h t.heap wr ∧ Q v t.heap) ∧ CHr Z EL s.vm s.heap t.vm t.heap ∧ ReturnedEndW s o t L kc ks
/-- the walk of a body that interns nothing -/
theorem CN.walk {y : MethodName} {bytes : ByteArray} {maxL : Nat} {ret : Option FieldType} {ws : List Jvm.Cond} {rm : Room} {h0 : Heap} {as' : Array Value} {wr : List Addr} {Q : Option Value → Heap → Prop} {L0 : Array Slot} (hpl : plainFor y = true) (ho : Old Z n0 h0) (hef : ∀ m, entryFrame m as' maxL = mkF m 0 L0 [])
    (k : ∀ p e s m below meth c T, meth.locks = false → meth.sig.returnType = ret → meth.name = y.name → WS p l e rm s m as' below meth c Z [] n0 y.cls bytes maxL false s.vm T h0 [] 0 0 → Wp p e below (PN s n0 h0 wr Q rm.cells rm.slots) T (mkF m 0 L0 [])) : CN l y bytes maxL ret ws rm Z n0 h0 as' wr Q := by
  refine MetFree.of_bodySF hpl hisR ?_
  intro p e s m args below meth c s₁ Bd hml0 hP hK
  obtain ⟨rfl, hZ, hh⟩ := hP
  have X0 : Stand p l e rm s m args below meth c s₁ [] 0 0 := Stand.of_body Bd
  obtain ⟨s₂, o, a1, a2⟩ := k p e s m below meth c s₁ (BodyLoose.notSynchronized Bd) Bd.returns (name_of_methodNamed Bd.named Bd.method).1 ⟨X0, by rw [← hh, Bd.state]; rfl, hZ, findClass_of_methodNamed Bd.named, Bd.exec, Bd.bytes, hml0, Fr.nil n0, ho, Or.inl ⟨rfl, rfl⟩⟩
  exact ⟨s₂, o, castTop (hef m) a1, a2⟩
/-- the walk of a body that may intern -/
theorem CW.walk {y : MethodName} {bytes : ByteArray} {maxL : Nat} {ret : Option FieldType} {ws : List Jvm.Cond} {rm : Room} {h0 : Heap} {as' : Array Value} {wr SL : List Addr} {Q : Option Value → Heap → Prop} {L0 : Array Slot} (hpl : plainFor y = true) (ho : Old Z n0 h0) (hef : ∀ m, entryFrame m as' maxL = mkF m 0 L0 [])
    (k : ∀ p e s m below meth c T, meth.locks = false → meth.sig.returnType = ret → meth.name = y.name → (∀ x ∈ SL, Safe Z EL s.vm h0 x) → WS p l e rm s m as' below meth c Z EL n0 y.cls bytes maxL true s.vm T h0 [] 0 0 → Wp p e below (PW s Z EL n0 h0 wr Q rm.cells rm.slots) T (mkF m 0 L0 [])) : CW l y bytes maxL ret ws rm Z EL SL n0 h0 as' wr Q := by
  refine MetFree.of_bodySF hpl hisR ?_
  intro p e s m args below meth c s₁ Bd hml0 hP hK
  obtain ⟨rfl, hZ, hh, hC, hSL⟩ := hP
  have X0 : Stand p l e rm s m args below meth c s₁ [] 0 0 := Stand.of_body Bd
  subst hh
  obtain ⟨s₂, o, a1, a2⟩ := k p e s m below meth c s₁ (BodyLoose.notSynchronized Bd) Bd.returns (name_of_methodNamed Bd.named Bd.method).1 hSL ⟨X0, by rw [Bd.state]; rfl, hZ, findClass_of_methodNamed Bd.named, Bd.exec, Bd.bytes, hml0, Fr.nil n0, ho, Or.inr ⟨rfl, ⟨_, (State.WarmedH.refl s).since s.heap.size, Nat.le_refl _⟩, CHr.refl hC⟩⟩
  exact ⟨s₂, o, castTop (hef m) a1, a2⟩
theorem f_retN (A : WS p l e R s m args below meth c Z EL n0 own code ml false vm T h locs cells slots) {h0 : Heap} {wr : List Addr} {Q : Option Value → Heap → Prop} {kc ks : Nat} (hlk : meth.locks = false) (hret : meth.sig.returnType = none) (hd : decode code pc = .ok (.return_, 1))  (hc : cells ≤ kc) (hs : slots ≤ ks) (K : Keep h0 h wr) (q : Q (none) h) : Wp p e below (PN s n0 h0 wr Q kc ks) T (mkF m pc L []) := by
  obtain ⟨X, rfl, -, -, hx, hby, -, N, -, b⟩ := A
  obtain ⟨-, rfl⟩ : false = false ∧ vm = s.vm := b.elim id fun b => by cases b.1
  have X : Stand p l e R s m args below meth c T locs cells slots := X
  obtain ⟨fs, hr, hrun, hended, hW, hsame⟩ := X.leave (v := none) (by intro _; rfl) hlk
  refine ⟨_, _, ?_, hrun, hended, _, _, rfl, ⟨N, K, q⟩, ⟨_, rfl⟩, hW, hsame.mono hc hs⟩
  exact X.returnOut hx hret (hb hby hd) hr
theorem f_retW (A : WS p l e R s m args below meth c Z EL n0 own code ml true vm T h locs cells slots) {a0 : Array Value} (hEL : EW Z a0 EL) {h0 : Heap} {wr : List Addr} {Q : Option Value → Heap → Prop} {kc ks : Nat} (hlk : meth.locks = false) (hret : meth.sig.returnType = none) (hd : decode code pc = .ok (.return_, 1))  (hc : cells ≤ kc) (hs : slots ≤ ks) (K : Keep h0 h wr) (q : Q (none) h) : Wp p e below (PW s Z EL n0 h0 wr Q kc ks) T (mkF m pc L []) := by
  obtain ⟨⟨k0, hS, hk⟩, hC⟩ := A.wide
  obtain ⟨X, rfl, hZ, -, hx, hby, -, N, -, -⟩ := A
  obtain ⟨fs, hr, hrun, hended, hW⟩ := X.leaveW hS hk (v := none) (by intro _; rfl) hlk
  refine ⟨_, _, ?_, hrun, hended, _, _, rfl, ⟨N, K, q⟩, hC.trans (show CHr Z EL vm T.heap T.vm T.heap from CHv.at X hZ hEL hC.1), hW.1, hW.2.1, hW.2.2.1, hW.2.2.2.mono hc hs⟩
  exact X.returnOut hx hret (hb hby hd) hr
theorem f_retIN (A : WS p l e R s m args below meth c Z EL n0 own code ml false vm T h locs cells slots) {h0 : Heap} {wr : List Addr} {Q : Option Value → Heap → Prop} {kc ks : Nat} (hlk : meth.locks = false) (hret : meth.sig.returnType = some .int) (hd : decode code pc = .ok (.ireturn, 1)) {z : Int32} (hc : cells ≤ kc) (hs : slots ≤ ks) (K : Keep h0 h wr) (q : Q (some (.int z)) h) : Wp p e below (PN s n0 h0 wr Q kc ks) T (mkF m pc L (.int z :: S)) := by
  obtain ⟨X, rfl, -, -, hx, hby, -, N, -, b⟩ := A
  obtain ⟨-, rfl⟩ : false = false ∧ vm = s.vm := b.elim id fun b => by cases b.1
  have X : Stand p l e R s m args below meth c T locs cells slots := X
  obtain ⟨fs, hr, hrun, hended, hW, hsame⟩ := X.leave (v := some (.int z)) (by intro h; rw [hret] at h; cases h) hlk
  refine ⟨_, _, ?_, hrun, hended, _, _, rfl, ⟨N, K, q⟩, ⟨_, rfl⟩, hW, hsame.mono hc hs⟩
  exact retOut X hx hret rfl (Or.inl ⟨rfl, Or.inl rfl, z, rfl⟩) (hb hby hd) hr
theorem f_retIW (A : WS p l e R s m args below meth c Z EL n0 own code ml true vm T h locs cells slots) {a0 : Array Value} (hEL : EW Z a0 EL) {h0 : Heap} {wr : List Addr} {Q : Option Value → Heap → Prop} {kc ks : Nat} (hlk : meth.locks = false) (hret : meth.sig.returnType = some .int) (hd : decode code pc = .ok (.ireturn, 1)) {z : Int32} (hc : cells ≤ kc) (hs : slots ≤ ks) (K : Keep h0 h wr) (q : Q (some (.int z)) h) : Wp p e below (PW s Z EL n0 h0 wr Q kc ks) T (mkF m pc L (.int z :: S)) := by
  obtain ⟨⟨k0, hS, hk⟩, hC⟩ := A.wide
  obtain ⟨X, rfl, hZ, -, hx, hby, -, N, -, -⟩ := A
  obtain ⟨fs, hr, hrun, hended, hW⟩ := X.leaveW hS hk (v := some (.int z)) (by intro h; rw [hret] at h; cases h) hlk
  refine ⟨_, _, ?_, hrun, hended, _, _, rfl, ⟨N, K, q⟩, hC.trans (show CHr Z EL vm T.heap T.vm T.heap from CHv.at X hZ hEL hC.1), hW.1, hW.2.1, hW.2.2.1, hW.2.2.2.mono hc hs⟩
  exact retOut X hx hret rfl (Or.inl ⟨rfl, Or.inl rfl, z, rfl⟩) (hb hby hd) hr
theorem f_retBN (A : WS p l e R s m args below meth c Z EL n0 own code ml false vm T h locs cells slots) {h0 : Heap} {wr : List Addr} {Q : Option Value → Heap → Prop} {kc ks : Nat} (hlk : meth.locks = false) {t : FieldType} (hret : meth.sig.returnType = some t) (hd : decode code pc = .ok (.ireturn, 1)) {z : Int32} (ht : t = .boolean ∨ t = .byte ∨ t = .char ∨ t = .short) (z' : Int32) (hz : nar t z = z') (hc : cells ≤ kc) (hs : slots ≤ ks) (K : Keep h0 h wr) (q : Q (some (.int z')) h) : Wp p e below (PN s n0 h0 wr Q kc ks) T (mkF m pc L (.int z :: S)) := by
  obtain ⟨X, rfl, -, -, hx, hby, -, N, -, b⟩ := A
  obtain ⟨-, rfl⟩ : false = false ∧ vm = s.vm := b.elim id fun b => by cases b.1
  have X : Stand p l e R s m args below meth c T locs cells slots := X
  obtain ⟨fs, hr, hrun, hended, hW, hsame⟩ := X.leave (v := some (.int z')) (by intro h; rw [hret] at h; cases h) hlk
  refine ⟨_, _, ?_, hrun, hended, _, _, rfl, ⟨N, K, q⟩, ⟨_, rfl⟩, hW, hsame.mono hc hs⟩
  subst hz; exact retN X hx hret ht (hb hby hd) hr
theorem f_retBW (A : WS p l e R s m args below meth c Z EL n0 own code ml true vm T h locs cells slots) {a0 : Array Value} (hEL : EW Z a0 EL) {h0 : Heap} {wr : List Addr} {Q : Option Value → Heap → Prop} {kc ks : Nat} (hlk : meth.locks = false) {t : FieldType} (hret : meth.sig.returnType = some t) (hd : decode code pc = .ok (.ireturn, 1)) {z : Int32} (ht : t = .boolean ∨ t = .byte ∨ t = .char ∨ t = .short) (z' : Int32) (hz : nar t z = z') (hc : cells ≤ kc) (hs : slots ≤ ks) (K : Keep h0 h wr) (q : Q (some (.int z')) h) : Wp p e below (PW s Z EL n0 h0 wr Q kc ks) T (mkF m pc L (.int z :: S)) := by
  obtain ⟨⟨k0, hS, hk⟩, hC⟩ := A.wide
  obtain ⟨X, rfl, hZ, -, hx, hby, -, N, -, -⟩ := A
  obtain ⟨fs, hr, hrun, hended, hW⟩ := X.leaveW hS hk (v := some (.int z')) (by intro h; rw [hret] at h; cases h) hlk
  refine ⟨_, _, ?_, hrun, hended, _, _, rfl, ⟨N, K, q⟩, hC.trans (show CHr Z EL vm T.heap T.vm T.heap from CHv.at X hZ hEL hC.1), hW.1, hW.2.1, hW.2.2.1, hW.2.2.2.mono hc hs⟩
  subst hz; exact retN X hx hret ht (hb hby hd) hr
theorem f_retJN (A : WS p l e R s m args below meth c Z EL n0 own code ml false vm T h locs cells slots) {h0 : Heap} {wr : List Addr} {Q : Option Value → Heap → Prop} {kc ks : Nat} (hlk : meth.locks = false) (hret : meth.sig.returnType = some .long) (hd : decode code pc = .ok (.lreturn, 1)) {z : Int64} (hc : cells ≤ kc) (hs : slots ≤ ks) (K : Keep h0 h wr) (q : Q (some (.long z)) h) : Wp p e below (PN s n0 h0 wr Q kc ks) T (mkF m pc L (.long z :: S)) := by
  obtain ⟨X, rfl, -, -, hx, hby, -, N, -, b⟩ := A
  obtain ⟨-, rfl⟩ : false = false ∧ vm = s.vm := b.elim id fun b => by cases b.1
  have X : Stand p l e R s m args below meth c T locs cells slots := X
  obtain ⟨fs, hr, hrun, hended, hW, hsame⟩ := X.leave (v := some (.long z)) (by intro h; rw [hret] at h; cases h) hlk
  refine ⟨_, _, ?_, hrun, hended, _, _, rfl, ⟨N, K, q⟩, ⟨_, rfl⟩, hW, hsame.mono hc hs⟩
  exact retOut X hx hret rfl (Or.inr (Or.inl ⟨rfl, rfl, z, rfl⟩)) (hb hby hd) hr
theorem f_retJW (A : WS p l e R s m args below meth c Z EL n0 own code ml true vm T h locs cells slots) {a0 : Array Value} (hEL : EW Z a0 EL) {h0 : Heap} {wr : List Addr} {Q : Option Value → Heap → Prop} {kc ks : Nat} (hlk : meth.locks = false) (hret : meth.sig.returnType = some .long) (hd : decode code pc = .ok (.lreturn, 1)) {z : Int64} (hc : cells ≤ kc) (hs : slots ≤ ks) (K : Keep h0 h wr) (q : Q (some (.long z)) h) : Wp p e below (PW s Z EL n0 h0 wr Q kc ks) T (mkF m pc L (.long z :: S)) := by
  obtain ⟨⟨k0, hS, hk⟩, hC⟩ := A.wide
  obtain ⟨X, rfl, hZ, -, hx, hby, -, N, -, -⟩ := A
  obtain ⟨fs, hr, hrun, hended, hW⟩ := X.leaveW hS hk (v := some (.long z)) (by intro h; rw [hret] at h; cases h) hlk
  refine ⟨_, _, ?_, hrun, hended, _, _, rfl, ⟨N, K, q⟩, hC.trans (show CHr Z EL vm T.heap T.vm T.heap from CHv.at X hZ hEL hC.1), hW.1, hW.2.1, hW.2.2.1, hW.2.2.2.mono hc hs⟩
  exact retOut X hx hret rfl (Or.inr (Or.inl ⟨rfl, rfl, z, rfl⟩)) (hb hby hd) hr
theorem f_retRN (A : WS p l e R s m args below meth c Z EL n0 own code ml false vm T h locs cells slots) {h0 : Heap} {wr : List Addr} {Q : Option Value → Heap → Prop} {kc ks : Nat} (hlk : meth.locks = false) {t : FieldType} (hret : meth.sig.returnType = some t) (hd : decode code pc = .ok (.areturn, 1)) {z : Value} (ht : t.isReference = true) (hz : z.isRef = true) (hc : cells ≤ kc) (hs : slots ≤ ks) (K : Keep h0 h wr) (q : Q (some z) h) : Wp p e below (PN s n0 h0 wr Q kc ks) T (mkF m pc L (z :: S)) := by
  obtain ⟨X, rfl, -, -, hx, hby, -, N, -, b⟩ := A
  obtain ⟨-, rfl⟩ : false = false ∧ vm = s.vm := b.elim id fun b => by cases b.1
  have X : Stand p l e R s m args below meth c T locs cells slots := X
  obtain ⟨fs, hr, hrun, hended, hW, hsame⟩ := X.leave (v := some z) (by intro h; rw [hret] at h; cases h) hlk
  refine ⟨_, _, ?_, hrun, hended, _, _, rfl, ⟨N, K, q⟩, ⟨_, rfl⟩, hW, hsame.mono hc hs⟩
  exact retOut X hx hret (by cases t <;> cases z <;> first | rfl | cases ht | cases hz) (Or.inr (Or.inr (Or.inr (Or.inr ⟨rfl, ht, hz⟩)))) (hb hby hd) hr
theorem f_retRW (A : WS p l e R s m args below meth c Z EL n0 own code ml true vm T h locs cells slots) {a0 : Array Value} (hEL : EW Z a0 EL) {h0 : Heap} {wr : List Addr} {Q : Option Value → Heap → Prop} {kc ks : Nat} (hlk : meth.locks = false) {t : FieldType} (hret : meth.sig.returnType = some t) (hd : decode code pc = .ok (.areturn, 1)) {z : Value} (ht : t.isReference = true) (hz : z.isRef = true) (hc : cells ≤ kc) (hs : slots ≤ ks) (K : Keep h0 h wr) (q : Q (some z) h) : Wp p e below (PW s Z EL n0 h0 wr Q kc ks) T (mkF m pc L (z :: S)) := by
  obtain ⟨⟨k0, hS, hk⟩, hC⟩ := A.wide
  obtain ⟨X, rfl, hZ, -, hx, hby, -, N, -, -⟩ := A
  obtain ⟨fs, hr, hrun, hended, hW⟩ := X.leaveW hS hk (v := some z) (by intro h; rw [hret] at h; cases h) hlk
  refine ⟨_, _, ?_, hrun, hended, _, _, rfl, ⟨N, K, q⟩, hC.trans (show CHr Z EL vm T.heap T.vm T.heap from CHv.at X hZ hEL hC.1), hW.1, hW.2.1, hW.2.2.1, hW.2.2.2.mono hc hs⟩
  exact retOut X hx hret (by cases t <;> cases z <;> first | rfl | cases ht | cases hz) (Or.inr (Or.inr (Or.inr (Or.inr ⟨rfl, ht, hz⟩)))) (hb hby hd) hr
theorem f_callS (A : WS p l e R s m args below meth c Z EL n0 own code ml bw vm T h locs cells slots) {i : Nat} {y : MethodName} {bytes : ByteArray} {maxL : Nat} {ret : Option FieldType} {wr : List Addr} {Q : Option Value → Heap → Prop} {kc ks : Nat} (hd : decode code pc = .ok (.invokestatic i, 3)) (hp : pc + 3 = pc') (w1 : (Cond.methodLink own i y).before a0 Z = true) (w2 : (Cond.static y).before a0 Z = true) (w3 : (Cond.initialized y.cls).before a0 Z = true) (w4 : (Cond.code y bytes maxL ret).before a0 Z = true) (hy : y.cls ≠ "java/lang/invoke/MethodHandle" ∧ y.cls ≠ "java/lang/invoke/VarHandle")
    {ps : List FieldType} {r : Option FieldType} (pd : parseMethodDescriptor y.desc = some ⟨ps, r⟩) (argsL rest : List Value) (hal : argsL.length = ps.length) (hS : S = argsL.reverse ++ rest) (hml : L.size = ml) (W : Nat) (hW : (rest.map fun v => v.category).sum ≤ W) (hK : BkN l R p e below (s.setVm vm) args y 3 W argsL.toArray h n0 wr Q kc ks) (hc : cells + kc ≤ R.cells) (hs : slots + ks ≤ R.slots) (hn : ∀ x ∈ wr, n0 ≤ x) (sf : bw = true → ∀ x ∈ wr, Safe Z EL vm h x)
    (k : ∀ (v : Option Value) (T' : State) (h' : Heap) (L' : List Loc), WS p l e R s m args below meth c Z EL n0 own code ml bw vm T' h' (locs ++ L') (cells + kc) (slots + ks) → Keep h h' wr → Q v h' → Wp p e below P T' (mkF m pc' L (v.toList ++ rest))) : Wp p e below P T (mkF m pc L S) := by
  subst hp hS
  obtain ⟨v, _, ⟨T', L1, k1, n1⟩, -, X', ⟨L', ⟨N, K, q⟩, l1, y1, z1⟩, st⟩ := Jvm.LawKit.callS A.1 A.2.2.2.2.1 (y := y) A.2.2.2.1 (mvT A.hZ w1) (mvT A.hZ w2) (mvT A.hZ w3) (mvT A.hZ w4) hy hK (g := mkF m pc L (argsL.reverse ++ rest)) rfl (hml.trans A.2.2.2.2.2.2.1.symm) (argsL := argsL) (rest := rest) (lenOf pd hal) rfl (by show 2 * 0 + _ ≤ _; omega) (hb A.2.2.2.2.2.1 hd) (fun _ _ => ⟨rfl, A.2.1, hc, hs⟩)
  dsimp only [Pt.U, Pt.locs, Pt.cells, Pt.slots] at X' l1 y1 z1 st N K q
  subst l1 y1 z1
  exact (k v T' T'.heap L' (A.kept X' rfl (A.2.2.2.2.2.2.2.1.app N) K hn sf) K q).go st
theorem f_callI (A : WS p l e R s m args below meth c Z EL n0 own code ml bw vm T h locs cells slots) {i : Nat} {y : MethodName} {bytes : ByteArray} {maxL : Nat} {a : Addr} {wr : List Addr} {Q : Option Value → Heap → Prop} {kc ks : Nat} (hd : decode code pc = .ok (.invokespecial i, 3)) (hp : pc + 3 = pc') (hy1 : y.name = "<init>") (w1 : (Cond.methodLink own i y).before a0 Z = true) (w2 : (Cond.instanceMethod y).before a0 Z = true) (w4 : (Cond.code y bytes maxL none).before a0 Z = true) (hy : y.cls ≠ "java/lang/invoke/MethodHandle" ∧ y.cls ≠ "java/lang/invoke/VarHandle")
    {ps : List FieldType} {r : Option FieldType} (pd : parseMethodDescriptor y.desc = some ⟨ps, r⟩) (argsL rest : List Value) (hal : argsL.length = ps.length) (hS : S = argsL.reverse ++ .ref a :: rest) (hml : L.size = ml) (W : Nat) (hW : (rest.map fun v => v.category).sum ≤ W) (hK : BkN l R p e below (s.setVm vm) args y 3 W (.ref a :: argsL).toArray h n0 wr Q kc ks) (hc : cells + kc ≤ R.cells) (hs : slots + ks ≤ R.slots) (hn : ∀ x ∈ wr, n0 ≤ x) (sf : bw = true → ∀ x ∈ wr, Safe Z EL vm h x)
    (k : ∀ (v : Option Value) (T' : State) (h' : Heap) (L' : List Loc), WS p l e R s m args below meth c Z EL n0 own code ml bw vm T' h' (locs ++ L') (cells + kc) (slots + ks) → Keep h h' wr → Q v h' → Wp p e below P T' (mkF m pc' L (v.toList ++ rest))) : Wp p e below P T (mkF m pc L S) := by
  subst hp hS
  obtain ⟨v, _, ⟨T', L1, k1, n1⟩, -, X', ⟨L', ⟨N, K, q⟩, l1, y1, z1⟩, st⟩ := A.1.specialBack A.2.2.2.2.1 (y := y) hy1 A.2.2.2.1 (mvT A.hZ w1) (mvT A.hZ w2) (mvT A.hZ w4) hy hK (g := mkF m pc L (argsL.reverse ++ .ref a :: rest)) rfl (hml.trans A.2.2.2.2.2.2.1.symm) (Steps.refl _) (a := a) (argsL := argsL) (rest := rest) (lenOf pd hal) rfl (by show 2 * 0 + _ ≤ _; omega) (hb A.2.2.2.2.2.1 hd) (fun _ _ => ⟨rfl, A.2.1, hc, hs⟩)
  dsimp only [Pt.U, Pt.locs, Pt.cells, Pt.slots] at X' l1 y1 z1 st N K q
  subst l1 y1 z1
  exact (k v T' T'.heap L' (A.kept X' rfl (A.2.2.2.2.2.2.2.1.app N) K hn sf) K q).gos st
theorem f_callV (A : WS p l e R s m args below meth c Z EL n0 own code ml bw vm T h locs cells slots) {i : Nat} {y z : MethodName} {C : String} {a : Addr} {wr : List Addr} {Q : Option Value → Heap → Prop} {kc ks : Nat} (hd : decode code pc = .ok (.invokevirtual i, 3)) (hp : pc + 3 = pc') (w1 : (Cond.methodLink own i y).before a0 Z = true) (w2 : (Cond.declares y).before a0 Z = true) (hnf : NotFace (s.setVm vm) y) (w3 : (Cond.selects C y z).before a0 Z = true) (w4 : (Cond.instanceMethod z).before a0 Z = true) (hy : y.cls ≠ "java/lang/invoke/MethodHandle" ∧ y.cls ≠ "java/lang/invoke/VarHandle") (E : Exa Z h a C)
    {ps : List FieldType} {r : Option FieldType} (pd : parseMethodDescriptor y.desc = some ⟨ps, r⟩) (argsL rest : List Value) (hal : argsL.length = ps.length) (hS : S = argsL.reverse ++ .ref a :: rest) (hml : L.size = ml) (W : Nat) (hW : (rest.map fun v => v.category).sum ≤ W) (hK : BkN l R p e below (s.setVm vm) args z 3 W (.ref a :: argsL).toArray h n0 wr Q kc ks) (hc : cells + kc ≤ R.cells) (hs : slots + ks ≤ R.slots) (hn : ∀ x ∈ wr, n0 ≤ x) (sf : bw = true → ∀ x ∈ wr, Safe Z EL vm h x)
    (k : ∀ (v : Option Value) (T' : State) (h' : Heap) (L' : List Loc), WS p l e R s m args below meth c Z EL n0 own code ml bw vm T' h' (locs ++ L') (cells + kc) (slots + ks) → Keep h h' wr → Q v h' → Wp p e below P T' (mkF m pc' L (v.toList ++ rest))) : Wp p e below P T (mkF m pc L S) := by
  subst hp hS
  obtain ⟨cq, kq, qa, qb, qc⟩ := isOf A.hZ A.2.1 E
  obtain ⟨v, _, ⟨T', L1, k1, n1⟩, -, X', ⟨L', ⟨N, K, q⟩, l1, y1, z1⟩, st⟩ := A.1.virtualBack A.2.2.2.2.1 (y := y) (z := z) A.2.2.2.1 (mvT A.hZ w1) (mvT A.hZ w2) hnf (mvT A.hZ w3) (mvT A.hZ w4) hy hK qa qc (g := mkF m pc L (argsL.reverse ++ .ref a :: rest)) rfl (hml.trans A.2.2.2.2.2.2.1.symm) (Steps.refl _) (argsL := argsL) (rest := rest) (lenOf pd hal) rfl (by show 2 * 0 + _ ≤ _; omega) (hb A.2.2.2.2.2.1 hd) (fun _ _ => ⟨rfl, A.2.1, hc, hs⟩)
  dsimp only [Pt.U, Pt.locs, Pt.cells, Pt.slots] at X' l1 y1 z1 st N K q
  subst l1 y1 z1
  exact (k v T' T'.heap L' (A.kept X' rfl (A.2.2.2.2.2.2.2.1.app N) K hn sf) K q).gos st
theorem nfS {y : MethodName} {C : String} (A : WS p l e R s m args below meth c Z EL n0 own code ml bw vm T h locs cells slots) (w3 : (Cond.selects C y y).before a0 Z = true) : NotFace (s.setVm vm) y := notFace_of_selects (args := #[]) (mvT A.hZ w3)
/-- the payer, of a contract -/
theorem CN.pay {y : MethodName} {bytes : ByteArray} {maxL : Nat} {ret : Option FieldType} {rm : Room} {as' : Array Value} {wr : List Addr} {Q : Option Value → Heap → Prop} {len W : Nat} (A : WS p l e R s m args below meth c Z EL n0 own code ml bw vm T h locs cells slots) (hM : CN l y bytes maxL ret [] rm Z n0 h as' wr Q) (wc : (Cond.code y bytes maxL ret).before a0 Z = true) (wz : (Cond.initialized y.cls).before a0 Z = true) (hf : rm.frames + 1 ≤ R.frames) (hl : W + (maxL + 11) + rm.locals ≤ R.locals) :
    BkN l R p e below (s.setVm vm) args y len W as' h n0 wr Q rm.cells rm.slots :=
  backOf (Q := fun v h' L => Fr n0 L ∧ Keep h h' wr ∧ Q v h') hM A.hZ wc wz hf hl
theorem nfOf {U : State} {a : Array Value} {C : String} {y y0 : MethodName} (w : (Cond.selects C y0 y0).before a U = true) (hc : y0.cls = y.cls) : NotFace U y := fun r0 h0 => by
  obtain ⟨c2, r2, m2, q1, q2, q3, q4, kP, hkP, hkPi⟩ := Cond.selects_spec w
  have e1 := findClass_of_methodNamed h0
  have e2 := findClass_of_methodNamed q3
  rw [hc] at e2
  have e3 : r0.cls = m2.cls := Option.some.inj (e1.symm.trans e2)
  exact ⟨kP, by rw [e3]; exact hkP, hkPi⟩
theorem nfT {C : String} {y y0 : MethodName} (A : WS p l e R s m args below meth c Z EL n0 own code ml bw vm T h locs cells slots) (w : (Cond.selects C y0 y0).before a0 Z = true) (hc : y0.cls = y.cls) : NotFace (s.setVm vm) y := nfOf (a := #[]) (mvT A.hZ w) hc
theorem sameSelf {U : State} {a : Array Value} {y : MethodName} (wi : (Cond.instanceMethod y).before a U = true) (nf : NotFace U y) (hy : y.cls ≠ "java/lang/invoke/MethodHandle" ∧ y.cls ≠ "java/lang/invoke/VarHandle") : (Cond.sameMethod y.cls y.cls y.name y.desc).before a U = true := by
  obtain ⟨mk, methM, hnamed, -, -, -⟩ := Cond.instanceMethod_spec wi
  obtain ⟨k, hk, hni⟩ := nf mk hnamed
  have hf : U.methodFound? y.cls y.name y.desc = some mk := State.methodFound?_of_named hnamed hy
  have hc := findClass_of_methodNamed hnamed
  have hn : U.methodNamed? ⟨y.cls, y.name, y.desc⟩ = some mk := hnamed
  simp only [Cond.before, Cond.holds, Cond.value, hc, hf, hn]
  simp [hk, hni]
theorem f_callP (A : WS p l e R s m args below meth c Z EL n0 own code ml bw vm T h locs cells slots) {i : Nat} {y : MethodName} {bytes : ByteArray} {maxL : Nat} {ret : Option FieldType} {C D : String} {a : Addr} {wr : List Addr} {Q : Option Value → Heap → Prop} {kc ks : Nat} (hd : decode code pc = .ok (.invokevirtual i, 3)) (hp : pc + 3 = pc') (w1 : (Cond.methodLink own i y).before a0 Z = true) (w2 : (Cond.instanceMethod y).before a0 Z = true) (w3 : (Cond.privateMethod y).before a0 Z = true) (w4 : (Cond.selects D y y).before a0 Z = true) (wc : (Cond.code y bytes maxL ret).before a0 Z = true) (hy : y.cls ≠ "java/lang/invoke/MethodHandle" ∧ y.cls ≠ "java/lang/invoke/VarHandle") (E : Exa Z h a C)
    {ps : List FieldType} {r : Option FieldType} (pd : parseMethodDescriptor y.desc = some ⟨ps, r⟩) (argsL rest : List Value) (hal : argsL.length = ps.length) (hS : S = argsL.reverse ++ .ref a :: rest) (hml : L.size = ml) (W : Nat) (hW : (rest.map fun v => v.category).sum ≤ W) (hK : BkN l R p e below (s.setVm vm) args y 3 W (.ref a :: argsL).toArray h n0 wr Q kc ks) (hc : cells + kc ≤ R.cells) (hs : slots + ks ≤ R.slots) (hn : ∀ x ∈ wr, n0 ≤ x) (sf : bw = true → ∀ x ∈ wr, Safe Z EL vm h x)
    (k : ∀ (v : Option Value) (T' : State) (h' : Heap) (L' : List Loc), WS p l e R s m args below meth c Z EL n0 own code ml bw vm T' h' (locs ++ L') (cells + kc) (slots + ks) → Keep h h' wr → Q v h' → Wp p e below P T' (mkF m pc' L (v.toList ++ rest))) : Wp p e below P T (mkF m pc L S) := by
  subst hp hS
  have hpriv := Cond.privateMethod_at (mvP (args := args) A.hZ w3)
  have hinst : (Cond.instanceMethod y).before args (s.setVm vm) = true := mvT A.hZ w2
  obtain ⟨mk, methM, hnamed, -, -, -⟩ := Cond.instanceMethod_spec hinst
  obtain ⟨kk, hkk, hni⟩ := notFace_of_selects (args := args) (mvT A.hZ w4) mk hnamed
  have hsel := selects_self_of_private (findClass_of_methodNamed hnamed) hkk hni hpriv hinst hy
  obtain ⟨cq, q1, q2⟩ := E.cell
  obtain ⟨v, _, ⟨T', L1, k1, n1⟩, -, X', ⟨L', ⟨N, K, q⟩, l1, y1, z1⟩, st⟩ := A.1.privateBack A.2.2.2.2.1 (y := y) A.2.2.2.1 (mvT A.hZ w1) hinst hsel hpriv (mvT A.hZ wc) hy hK (g := mkF m pc L (argsL.reverse ++ .ref a :: rest)) rfl (hml.trans A.2.2.2.2.2.2.1.symm) (Steps.refl _) (a := a) (by rw [A.2.1]; exact q1) q2 (argsL := argsL) (rest := rest) (lenOf pd hal) rfl (by show 2 * 0 + _ ≤ _; omega) (hb A.2.2.2.2.2.1 hd) (fun _ _ => ⟨rfl, A.2.1, hc, hs⟩)
  dsimp only [Pt.U, Pt.locs, Pt.cells, Pt.slots] at X' l1 y1 z1 st N K q
  subst l1 y1 z1
  exact (k v T' T'.heap L' (A.kept X' rfl (A.2.2.2.2.2.2.2.1.app N) K hn sf) K q).gos st
theorem f_callU (A : WS p l e R s m args below meth c Z EL n0 own code ml bw vm T h locs cells slots) {i : Nat} {y : MethodName} {bytes : ByteArray} {maxL : Nat} {ret : Option FieldType} {C : String} {a : Addr} {wr : List Addr} {Q : Option Value → Heap → Prop} {kc ks : Nat} (hd : decode code pc = .ok (.invokespecial i, 3)) (hp : pc + 3 = pc') (w1 : (Cond.methodLink own i y).before a0 Z = true) (nf : NotFace Z y) (hy2 : y.cls ≠ "java/lang/invoke/MethodHandle" ∧ y.cls ≠ "java/lang/invoke/VarHandle") (w3 : (Cond.instanceMethod y).before a0 Z = true) (w4 : (Cond.superclass own y.cls).before a0 Z = true) (wc : (Cond.code y bytes maxL ret).before a0 Z = true) (hy : y.name ≠ "<init>") (E : Exa Z h a C)
    {ps : List FieldType} {r : Option FieldType} (pd : parseMethodDescriptor y.desc = some ⟨ps, r⟩) (argsL rest : List Value) (hal : argsL.length = ps.length) (hS : S = argsL.reverse ++ .ref a :: rest) (hml : L.size = ml) (W : Nat) (hW : (rest.map fun v => v.category).sum ≤ W) (hK : BkN l R p e below (s.setVm vm) args y 3 W (.ref a :: argsL).toArray h n0 wr Q kc ks) (hc : cells + kc ≤ R.cells) (hs : slots + ks ≤ R.slots) (hn : ∀ x ∈ wr, n0 ≤ x) (sf : bw = true → ∀ x ∈ wr, Safe Z EL vm h x)
    (k : ∀ (v : Option Value) (T' : State) (h' : Heap) (L' : List Loc), WS p l e R s m args below meth c Z EL n0 own code ml bw vm T' h' (locs ++ L') (cells + kc) (slots + ks) → Keep h h' wr → Q v h' → Wp p e below P T' (mkF m pc' L (v.toList ++ rest))) : Wp p e below P T (mkF m pc L S) := by
  subst hp hS
  obtain ⟨v, _, ⟨T', L1, k1, n1⟩, -, X', ⟨L', ⟨N, K, q⟩, l1, y1, z1⟩, st⟩ := superBack A.1 A.2.2.2.2.1 A.hZ (y := y) A.2.2.2.1 w1 (sameSelf w3 nf hy2) w3 w4 hy hK A.2.1 (Ins.self E) (g := mkF m pc L (argsL.reverse ++ .ref a :: rest)) rfl (hml.trans A.2.2.2.2.2.2.1.symm) wc (argsL := argsL) (rest := rest) (lenOf pd hal) rfl (by show 2 * 0 + _ ≤ _; omega) (hb A.2.2.2.2.2.1 hd) (fun _ _ => ⟨rfl, A.2.1, hc, hs⟩)
  dsimp only [Pt.U, Pt.locs, Pt.cells, Pt.slots] at X' l1 y1 z1 st N K q
  subst l1 y1 z1
  exact (k v T' T'.heap L' (A.kept X' rfl (A.2.2.2.2.2.2.2.1.app N) K hn sf) K q).gos st
theorem f_callF (A : WS p l e R s m args below meth c Z EL n0 own code ml bw vm T h locs cells slots) {i n : Nat} {y z : MethodName} {C : String} {a : Addr} {wr : List Addr} {Q : Option Value → Heap → Prop} {kc ks : Nat} (hd : decode code pc = .ok (.invokeinterface i n, 5)) (hp : pc + 5 = pc') (w1 : (Cond.methodLink own i y).before a0 Z = true) (w2 : (Cond.declares y).before a0 Z = true) (w3 : (Cond.interfaceMethod y.cls y.cls y.name y.desc).before a0 Z = true) (hfc : ((Cond.interfaceMethod y.cls y.cls y.name y.desc).onTables && (Cond.interfaceMethod y.cls y.cls y.name y.desc).keepsFace) = true) (w4 : (Cond.selects C y z).before a0 Z = true) (w5 : (Cond.instanceMethod z).before a0 Z = true) (w6 : (Cond.publicMethod z).before a0 Z = true) (w7 : (Cond.unhidden C y.name y.desc).before a0 Z = true) (w8 : (Cond.castable C y.cls).before a0 Z = true) (hy : y.cls ≠ "java/lang/invoke/MethodHandle" ∧ y.cls ≠ "java/lang/invoke/VarHandle") (E : Exa Z h a C)
    {ps : List FieldType} {r : Option FieldType} (pd : parseMethodDescriptor y.desc = some ⟨ps, r⟩) (argsL rest : List Value) (hal : argsL.length = ps.length) (hS : S = argsL.reverse ++ .ref a :: rest) (hml : L.size = ml) (W : Nat) (hW : (rest.map fun v => v.category).sum ≤ W) (hK : BkN l R p e below (s.setVm vm) args z 5 W (.ref a :: argsL).toArray h n0 wr Q kc ks) (hc : cells + kc ≤ R.cells) (hs : slots + ks ≤ R.slots) (hn : ∀ x ∈ wr, n0 ≤ x) (sf : bw = true → ∀ x ∈ wr, Safe Z EL vm h x)
    (k : ∀ (v : Option Value) (T' : State) (h' : Heap) (L' : List Loc), WS p l e R s m args below meth c Z EL n0 own code ml bw vm T' h' (locs ++ L') (cells + kc) (slots + ks) → Keep h h' wr → Q v h' → Wp p e below P T' (mkF m pc' L (v.toList ++ rest))) : Wp p e below P T (mkF m pc L S) := by
  subst hp hS
  obtain ⟨cq, kq, qa, qb, qc⟩ := isOf A.hZ A.2.1 E
  obtain ⟨v, _, ⟨T', L1, k1, n1⟩, -, X', ⟨L', ⟨N, K, q⟩, l1, y1, z1⟩, st⟩ := A.1.interfaceBack A.2.2.2.2.1 (xi := y) (y := z) A.2.2.2.1 (mvT A.hZ w1) (mvT A.hZ w2) (mvT A.hZ w3 hfc) (mvT A.hZ w4) (mvT A.hZ w5) (mvT A.hZ w6) (mvT A.hZ w7) (mvT A.hZ w8) hy hK qa qb qc (g := mkF m pc L (argsL.reverse ++ .ref a :: rest)) rfl (hml.trans A.2.2.2.2.2.2.1.symm) (Steps.refl _) (argsL := argsL) (rest := rest) (lenOf pd hal) rfl (by show 2 * 0 + _ ≤ _; omega) (hb A.2.2.2.2.2.1 hd) (fun _ _ => ⟨rfl, A.2.1, hc, hs⟩)
  dsimp only [Pt.U, Pt.locs, Pt.cells, Pt.slots] at X' l1 y1 z1 st N K q
  subst l1 y1 z1
  exact (k v T' T'.heap L' (A.kept X' rfl (A.2.2.2.2.2.2.2.1.app N) K hn sf) K q).gos st
theorem f_clone (A : WS p l e R s m args below meth c Z EL n0 own code ml bw vm T h locs cells slots) {ad : String} {i : Nat} {a : Addr} {kA : ClassId} {ty : FieldType} {z : Int32} {vs : List Value} {dv : Value} (W cap : Nat) (hd : decode code pc = .ok (.invokevirtual i, 3)) (hp : pc + 3 = pc') (w1 : (Cond.methodLink own i ⟨ad, "clone", "()Ljava/lang/Object;"⟩).before a0 Z = true) (w2 : (Cond.sameMethod ad "java/lang/Object" "clone" "()Ljava/lang/Object;").before a0 Z = true) (w3 : (Cond.native ⟨"java/lang/Object", "clone", "()Ljava/lang/Object;"⟩).before a0 Z = true) (w4 : (Cond.instanceMethod ⟨"java/lang/Object", "clone", "()Ljava/lang/Object;"⟩).before a0 Z = true) (w5 : (Cond.selects ad ⟨ad, "clone", "()Ljava/lang/Object;"⟩ ⟨"java/lang/Object", "clone", "()Ljava/lang/Object;"⟩).before a0 Z = true) (w6 : (Cond.castable ad "java/lang/Cloneable").before a0 Z = true)
    (F : Arv Z h a kA ty z vs dv) (E : Exa Z h a ad) (hml : L.size = ml) (hf : 1 ≤ R.frames) (hW : (S.map fun v => v.category).sum ≤ W) (hl : W + 14 ≤ R.locals) (hcap : z.toNatClampNeg ≤ cap) (hc : cells + 1 ≤ R.cells) (hsl : slots + cap ≤ R.slots)
    (k : ∀ (b : Addr) (T' : State) (h' : Heap), b = h.size → WS p l e R s m args below meth c Z EL n0 own code ml bw vm T' h' locs (cells + 1) (slots + cap) → Ext h h' → Arv Z h' b kA ty z vs dv → Exa Z h' b ad → Wp p e below P T' (mkF m pc' L (.ref b :: S))) : Wp p e below P T (mkF m pc L (.ref a :: S)) := by
  subst hp
  obtain ⟨T', h', X', q, E', F', G', st⟩ := cloneH A.1 A.2.2.2.2.1 A.hZ A.2.2.2.1 w1 w2 w3 w4 w5 w6 A.2.1 F.arh E (g := mkF m pc L (.ref a :: S)) rfl (hml.trans A.2.2.2.2.2.2.1.symm) rfl (hb A.2.2.2.2.2.1 hd) hf (W := W) (by show 2 * 0 + _ ≤ _; omega) hl hcap hc hsl
  exact (k _ T' h' rfl (A.grow X' q E') E' F' G').go st
theorem f_arrcpy (A : WS p l e R s m args below meth c Z EL n0 own code ml bw vm T h locs cells slots) {i : Nat} {a b : Addr} {kA kB : ClassId} {ty ty' : FieldType} {z z' sp dp nn : Int32} {vs vd us vd' : List Value} {dv dd : Value} (W : Nat) (hd : decode code pc = .ok (.invokestatic i, 3)) (hp : pc + 3 = pc') (w1 : (Cond.methodLink own i Jvm.Stand.acN).before a0 Z = true) (w2 : (Cond.native Jvm.Stand.acN).before a0 Z = true) (w3 : (Cond.static Jvm.Stand.acN).before a0 Z = true) (w4 : (Cond.initialized "java/lang/System").before a0 Z = true)
    (F : Arv Z h a kA ty z vs dv) (G : Arv Z h b kB ty' z' vd dd) (hty : (ty = ty' ∧ refKind ty = false) ∨ (refKind ty = true ∧ refKind ty' = true ∧ StoL Z h b us)) (h1 : ¬ sp < 0) (h2 : ¬ dp < 0) (h3 : ¬ nn < 0) (h4 : sp.toNatClampNeg + nn.toNatClampNeg ≤ z.toNatClampNeg) (h5 : dp.toNatClampNeg + nn.toNatClampNeg ≤ z'.toNatClampNeg)
    (hus : us = (List.range nn.toNatClampNeg).map fun i => vs.getD (sp.toNatClampNeg + i) dv) (hll : dp.toNatClampNeg + nn.toNatClampNeg ≤ vd.length) (hvd : vd.take dp.toNatClampNeg ++ us ++ vd.drop (dp.toNatClampNeg + nn.toNatClampNeg) = vd') (ge : n0 ≤ b) (sf : bw = true → Safe Z EL vm h b) (hml : L.size = ml) (hf : 1 ≤ R.frames) (hW : (S.map fun v => v.category).sum ≤ W) (hlo : W + (nativeFrameWords "java/lang/System" "arraycopy" 5 + 11) ≤ R.locals)
    (k : ∀ (T' : State) (h' : Heap) (L' : List Loc), WS p l e R s m args below meth c Z EL n0 own code ml bw vm T' h' L' cells slots → Keep h h' [b] → Arv Z h' b kB ty' z' vd' dd → Wp p e below P T' (mkF m pc' L S)) : Wp p e below P T (mkF m pc L (.int nn :: .int dp :: .ref b :: .int sp :: .ref a :: S)) := by
  subst hp hvd
  obtain ⟨T', h', L', X', q, N, K, V, st⟩ := cpA A.1 A.2.2.2.2.1 A.hZ A.2.2.2.1 w1 w2 w3 w4 A.2.1 F G hty h1 h2 h3 h4 h5 hus hll A.2.2.2.2.2.2.2.1 ge (g := mkF m pc L (.int nn :: .int dp :: .ref b :: .int sp :: .ref a :: S)) rfl (hml.trans A.2.2.2.2.2.2.1.symm) rfl (hb A.2.2.2.2.2.1 hd) hf (W := W) (by show 2 * 0 + _ ≤ _; omega) hlo
  exact (k T' h' L' (A.kept X' q N K (allS ge all0) (fun b => sfS (sf b) sf0)) K V).go st
theorem f_instNull (A : WS p l e R s m args below meth c Z EL n0 own code ml bw vm T h locs cells slots) {i : Nat} (hd : decode code pc = .ok (.instanceof i, 3)) (hp : pc + 3 = pc') (k : Wp p e below P T (mkF m pc' L (.int 0 :: S))) : Wp p e below P T (mkF m pc L (.null :: S)) := by
  subst hp; exact k.go fun t q => A.1.instanceofNull A.2.2.2.2.1 (g := mkF m pc L (.null :: S)) rfl rfl (hb A.2.2.2.2.2.1 hd) t q
theorem f_castNull (A : WS p l e R s m args below meth c Z EL n0 own code ml bw vm T h locs cells slots) {i : Nat} (hd : decode code pc = .ok (.checkcast i, 3)) (hp : pc + 3 = pc') (k : Wp p e below P T (mkF m pc' L (.null :: S))) : Wp p e below P T (mkF m pc L (.null :: S)) := by
  subst hp; exact k.go fun t q => A.1.checkcastNull A.2.2.2.2.1 (g := mkF m pc L (.null :: S)) rfl rfl (hb A.2.2.2.2.2.1 hd) t q
theorem f_instNo (A : WS p l e R s m args below meth c Z EL n0 own code ml bw vm T h locs cells slots) {C K : String} {i : Nat} {a : Addr} (hd : decode code pc = .ok (.instanceof i, 3)) (hp : pc + 3 = pc') (w : (Cond.classLink own i K).before a0 Z = true) (E : Exa Z h a C) (F : ∃ c t, Z.vm.findClass C = some c ∧ Z.vm.findClass K = some t ∧ Z.vm.assignable c t = false) (k : ∀ (T' : State), WS p l e R s m args below meth c Z EL n0 own code ml bw vm T' h locs cells slots → Wp p e below P T' (mkF m pc' L (.int 0 :: S))) : Wp p e below P T (mkF m pc L (.ref a :: S)) := by
  subst hp
  obtain ⟨T', X', q, st⟩ := instNo A.1 A.2.2.2.2.1 A.hZ A.2.2.2.1 w A.2.1 E F (g := mkF m pc L (.ref a :: S)) rfl rfl (hb A.2.2.2.2.2.1 hd)
  exact (k T' (A.still X' q)).go st
theorem f_callSW (A : WS p l e R s m args below meth c Z EL n0 own code ml true vm T h locs cells slots) {i : Nat} {y : MethodName} {bytes : ByteArray} {maxL : Nat} {ret : Option FieldType} {wr : List Addr} {Q : Option Value → Heap → Prop} {kc ks : Nat} (hd : decode code pc = .ok (.invokestatic i, 3)) (hp : pc + 3 = pc') (w1 : (Cond.methodLink own i y).before a0 Z = true) (w2 : (Cond.static y).before a0 Z = true) (w3 : (Cond.initialized y.cls).before a0 Z = true) (w4 : (Cond.code y bytes maxL ret).before a0 Z = true) (hy : y.cls ≠ "java/lang/invoke/MethodHandle" ∧ y.cls ≠ "java/lang/invoke/VarHandle")
    {ps : List FieldType} {r : Option FieldType} (pd : parseMethodDescriptor y.desc = some ⟨ps, r⟩) (argsL rest : List Value) (hal : argsL.length = ps.length) (hS : S = argsL.reverse ++ rest) (hml : L.size = ml) (W : Nat) (hW : (rest.map fun v => v.category).sum ≤ W) (hK : BkS l R p e below (s.setVm vm) args y 3 W argsL.toArray h n0 wr Q kc ks Z EL vm) (hc : cells + kc ≤ R.cells) (hs : slots + ks ≤ R.slots) (hn : ∀ x ∈ wr, n0 ≤ x)
    (k : ∀ (v : Option Value) (vm' : Vm) (T' : State) (h' : Heap) (L' : List Loc), WS p l e R s m args below meth c Z EL n0 own code ml true vm' T' h' (locs ++ L') (cells + kc) (slots + ks) → Keep h h' wr → CHr Z EL vm h vm' h' → Q v h' → Wp p e below P T' (mkF m pc' L (v.toList ++ rest))) : Wp p e below P T (mkF m pc L S) := by
  subst hp hS
  obtain ⟨v, _, ⟨T', L1, k1, n1⟩, -, X', hS2, hg2, ⟨L', ⟨N, K, q⟩, l1, y1, z1, hCC⟩, st⟩ := callSS A.1 A.2.2.2.2.1 (y := y) A.2.2.2.1 (mvT A.hZ w1) (mvT A.hZ w2) (mvT A.hZ w3) (mvT A.hZ w4) hy hK (g := mkF m pc L (argsL.reverse ++ rest)) rfl (hml.trans A.2.2.2.2.2.2.1.symm) (argsL := argsL) (rest := rest) (lenOf pd hal) rfl (by show 2 * 0 + _ ≤ _; omega) (hb A.2.2.2.2.2.1 hd) (fun _ _ => ⟨rfl, A.2.1, hc, hs⟩)
  dsimp only [Pt.U, Pt.locs, Pt.cells, Pt.slots] at X' l1 y1 z1 st N K q hS2 hg2 hCC
  subst l1 y1 z1
  obtain ⟨⟨k0, hS, hk⟩, hC⟩ := A.wide
  obtain ⟨X2, hS3, hZ3, ho3⟩ := rebS hS (A.2.1 ▸ hk) X' hS2 hg2 A.hZ A.2.2.2.1
  exact (k v T'.vm T' T'.heap L' ⟨X2, rfl, hZ3, ho3, A.2.2.2.2.1, A.2.2.2.2.2.1, A.2.2.2.2.2.2.1, A.2.2.2.2.2.2.2.1.app N, A.old.keep K hn, Or.inr ⟨rfl, ⟨_, hS3, Nat.le_refl _⟩, hC.trans hCC⟩⟩ K hCC q).gos st
theorem f_callIW (A : WS p l e R s m args below meth c Z EL n0 own code ml true vm T h locs cells slots) {i : Nat} {y : MethodName} {bytes : ByteArray} {maxL : Nat} {a : Addr} {wr : List Addr} {Q : Option Value → Heap → Prop} {kc ks : Nat} (hd : decode code pc = .ok (.invokespecial i, 3)) (hp : pc + 3 = pc') (hy1 : y.name = "<init>") (w1 : (Cond.methodLink own i y).before a0 Z = true) (w2 : (Cond.instanceMethod y).before a0 Z = true) (w4 : (Cond.code y bytes maxL none).before a0 Z = true) (hy : y.cls ≠ "java/lang/invoke/MethodHandle" ∧ y.cls ≠ "java/lang/invoke/VarHandle")
    {ps : List FieldType} {r : Option FieldType} (pd : parseMethodDescriptor y.desc = some ⟨ps, r⟩) (argsL rest : List Value) (hal : argsL.length = ps.length) (hS : S = argsL.reverse ++ .ref a :: rest) (hml : L.size = ml) (W : Nat) (hW : (rest.map fun v => v.category).sum ≤ W) (hK : BkS l R p e below (s.setVm vm) args y 3 W (.ref a :: argsL).toArray h n0 wr Q kc ks Z EL vm) (hc : cells + kc ≤ R.cells) (hs : slots + ks ≤ R.slots) (hn : ∀ x ∈ wr, n0 ≤ x)
    (k : ∀ (v : Option Value) (vm' : Vm) (T' : State) (h' : Heap) (L' : List Loc), WS p l e R s m args below meth c Z EL n0 own code ml true vm' T' h' (locs ++ L') (cells + kc) (slots + ks) → Keep h h' wr → CHr Z EL vm h vm' h' → Q v h' → Wp p e below P T' (mkF m pc' L (v.toList ++ rest))) : Wp p e below P T (mkF m pc L S) := by
  subst hp hS
  obtain ⟨v, _, ⟨T', L1, k1, n1⟩, -, X', hS2, hg2, ⟨L', ⟨N, K, q⟩, l1, y1, z1, hCC⟩, st⟩ := A.1.specialBackS A.2.2.2.2.1 (y := y) hy1 A.2.2.2.1 (mvT A.hZ w1) (mvT A.hZ w2) (mvT A.hZ w4) hy hK (g := mkF m pc L (argsL.reverse ++ .ref a :: rest)) rfl (hml.trans A.2.2.2.2.2.2.1.symm) (Steps.refl _) (a := a) (argsL := argsL) (rest := rest) (lenOf pd hal) rfl (by show 2 * 0 + _ ≤ _; omega) (hb A.2.2.2.2.2.1 hd) (fun _ _ => ⟨rfl, A.2.1, hc, hs⟩)
  dsimp only [Pt.U, Pt.locs, Pt.cells, Pt.slots] at X' l1 y1 z1 st N K q hS2 hg2 hCC
  subst l1 y1 z1
  obtain ⟨⟨k0, hS, hk⟩, hC⟩ := A.wide
  obtain ⟨X2, hS3, hZ3, ho3⟩ := rebS hS (A.2.1 ▸ hk) X' hS2 hg2 A.hZ A.2.2.2.1
  exact (k v T'.vm T' T'.heap L' ⟨X2, rfl, hZ3, ho3, A.2.2.2.2.1, A.2.2.2.2.2.1, A.2.2.2.2.2.2.1, A.2.2.2.2.2.2.2.1.app N, A.old.keep K hn, Or.inr ⟨rfl, ⟨_, hS3, Nat.le_refl _⟩, hC.trans hCC⟩⟩ K hCC q).gos st
theorem f_callVW (A : WS p l e R s m args below meth c Z EL n0 own code ml true vm T h locs cells slots) {i : Nat} {y z : MethodName} {C : String} {a : Addr} {wr : List Addr} {Q : Option Value → Heap → Prop} {kc ks : Nat} (hd : decode code pc = .ok (.invokevirtual i, 3)) (hp : pc + 3 = pc') (w1 : (Cond.methodLink own i y).before a0 Z = true) (w2 : (Cond.declares y).before a0 Z = true) (hnf : NotFace (s.setVm vm) y) (w3 : (Cond.selects C y z).before a0 Z = true) (w4 : (Cond.instanceMethod z).before a0 Z = true) (hy : y.cls ≠ "java/lang/invoke/MethodHandle" ∧ y.cls ≠ "java/lang/invoke/VarHandle") (E : Exa Z h a C)
    {ps : List FieldType} {r : Option FieldType} (pd : parseMethodDescriptor y.desc = some ⟨ps, r⟩) (argsL rest : List Value) (hal : argsL.length = ps.length) (hS : S = argsL.reverse ++ .ref a :: rest) (hml : L.size = ml) (W : Nat) (hW : (rest.map fun v => v.category).sum ≤ W) (hK : BkS l R p e below (s.setVm vm) args z 3 W (.ref a :: argsL).toArray h n0 wr Q kc ks Z EL vm) (hc : cells + kc ≤ R.cells) (hs : slots + ks ≤ R.slots) (hn : ∀ x ∈ wr, n0 ≤ x)
    (k : ∀ (v : Option Value) (vm' : Vm) (T' : State) (h' : Heap) (L' : List Loc), WS p l e R s m args below meth c Z EL n0 own code ml true vm' T' h' (locs ++ L') (cells + kc) (slots + ks) → Keep h h' wr → CHr Z EL vm h vm' h' → Q v h' → Wp p e below P T' (mkF m pc' L (v.toList ++ rest))) : Wp p e below P T (mkF m pc L S) := by
  subst hp hS
  obtain ⟨cq, kq, qa, qb, qc⟩ := isOf A.hZ A.2.1 E
  obtain ⟨v, _, ⟨T', L1, k1, n1⟩, -, X', hS2, hg2, ⟨L', ⟨N, K, q⟩, l1, y1, z1, hCC⟩, st⟩ := A.1.virtualBackS A.2.2.2.2.1 (y := y) (z := z) A.2.2.2.1 (mvT A.hZ w1) (mvT A.hZ w2) hnf (mvT A.hZ w3) (mvT A.hZ w4) hy hK qa qc (g := mkF m pc L (argsL.reverse ++ .ref a :: rest)) rfl (hml.trans A.2.2.2.2.2.2.1.symm) (Steps.refl _) (argsL := argsL) (rest := rest) (lenOf pd hal) rfl (by show 2 * 0 + _ ≤ _; omega) (hb A.2.2.2.2.2.1 hd) (fun _ _ => ⟨rfl, A.2.1, hc, hs⟩)
  dsimp only [Pt.U, Pt.locs, Pt.cells, Pt.slots] at X' l1 y1 z1 st N K q hS2 hg2 hCC
  subst l1 y1 z1
  obtain ⟨⟨k0, hS, hk⟩, hC⟩ := A.wide
  obtain ⟨X2, hS3, hZ3, ho3⟩ := rebS hS (A.2.1 ▸ hk) X' hS2 hg2 A.hZ A.2.2.2.1
  exact (k v T'.vm T' T'.heap L' ⟨X2, rfl, hZ3, ho3, A.2.2.2.2.1, A.2.2.2.2.2.1, A.2.2.2.2.2.2.1, A.2.2.2.2.2.2.2.1.app N, A.old.keep K hn, Or.inr ⟨rfl, ⟨_, hS3, Nat.le_refl _⟩, hC.trans hCC⟩⟩ K hCC q).gos st
/-- the payer, of a contract that may intern -/
theorem CW.pay {y : MethodName} {bytes : ByteArray} {maxL : Nat} {ret : Option FieldType} {rm : Room} {as' : Array Value} {wr SL : List Addr} {Q : Option Value → Heap → Prop} {len W : Nat} (A : WS p l e R s m args below meth c Z EL n0 own code ml true vm T h locs cells slots) (hEL : EW Z a0 EL) (hM : CW l y bytes maxL ret [] rm Z EL SL n0 h as' wr Q) (wc : (Cond.code y bytes maxL ret).before a0 Z = true) (wz : (Cond.initialized y.cls).before a0 Z = true) (hf : rm.frames + 1 ≤ R.frames) (hl : W + (maxL + 11) + rm.locals ≤ R.locals) (hSL : ∀ x ∈ SL, x < h.size ∧ Safe Z EL vm h x) :
    BkS l R p e below (s.setVm vm) args y len W as' h n0 wr Q rm.cells rm.slots Z EL vm :=
  have H := A.wide.2.1
  BackS.of_freeW (bytes := bytes) (maxL := maxL) (ret := ret) (E := fun _ first o t L k n => k = rm.cells ∧ n = rm.slots ∧ (∃ v, o = .returned v ∧ (Fr n0 L ∧ Keep h t.heap wr ∧ Q v t.heap)) ∧ CHr Z EL first.vm first.heap t.vm t.heap) hM hf hl
    (fun m meth c B a Y hp => have hU : Z.Warmed39 B.U.vm := wtrans (s := s.setVm vm) A.hZ Y.warmed
      ⟨by show (Cond.and _ .tt).before a B.U = true; rw [Cond.before_and, mv hU wc]; rfl, mv hU wc, mv hU wz, hp.2.2.1, hp.2.2.2⟩)
    (fun m meth c B a g mk Y hp => ⟨hp.1, wtrans (s := s.setVm vm) A.hZ Y.warmed, hp.2.1, (CHv.at Y A.hZ hEL H).1, fun x hx => (CHv.at Y A.hZ hEL H).safe (hSL x hx).1 (hSL x hx).2⟩) (fun _ _ _ _ _ _ _ _ _ => trivial)
    (fun _ _ _ _ ⟨v, L, h1, h2, h3, h4⟩ => ⟨L, _, _, h4, rfl, rfl, ⟨v, h1, h2⟩, h3⟩)
    (fun m meth c B a g mk v t L k n Y hp _ _ ⟨e1, e2, ⟨v', e3, e4⟩, e5⟩ => by
      cases e3; subst e1 e2
      refine ⟨L, e4, rfl, rfl, rfl, (CHv.at Y A.hZ hEL H).trans ?_⟩
      rw [← hp.2.1]; exact e5)
end OwnKit
end Jvm.Pilot.@@N@@
/- laws to paste: Road.backV, Road.lenW, Road.codOf (cut by pick.py; bodies as the Statement names them) -/
namespace Jvm.Pilot.@@N@@
namespace StrChars
open Jvm Sem ClassFile Op Lib Jvm.Stand Jvm.Free.XT Jvm.Free.ALB Jvm.Free.JM Jvm.Free
open Jvm.Lib.Cold (StaticIs)
/-- a char array whose places are chars -/
def Ch (a : Addr) (A : Cell) (U : State) : Prop := Arr .char a A U ∧ Typed .char A
theorem Ch.mv {a : Addr} {A : Cell} {U U' : State} (h : Ch a A U) (hal : U.vm.Alike U'.vm) (hh : U'.heap = U.heap) : Ch a A U' := ⟨h.1.mv hal hh, h.2⟩
theorem Ch.keep {a : Addr} {A : Cell} {U U' : State} (h : Ch a A U) (hal : U.vm.Alike U'.vm) (hk : U'.heap[a]? = some A) : Ch a A U' := ⟨h.1.keep hal hk, h.2⟩
/-- what place i of a char[]'s cell holds -/
def cv (A : Cell) (i : Nat) : Int32 := match A.slots[i]? with | some (.int x) => x | _ => 0
theorem Ch.get {a : Addr} {A : Cell} {U : State} (h : Ch a A U) {i : Nat} (hi : i < A.slots.size) : A.slots[i]? = some (.int (cv A i)) := by
  have e := Array.getElem?_eq_getElem hi
  have f := h.2 i _ e
  unfold cv; rw [e]
  generalize A.slots[i] = v at f
  cases v <;> simp [fits] at f ⊢
/-- the byte that i2b leaves of a char -/
def lo8 (x : Int32) : Int32 := x.toInt8.toInt32
theorem fits_lo8 (y : Int32) : fits .byte (.int (lo8 y)) = true := by
  have h1 := y.toInt8.le_toInt
  have h2 := y.toInt8.toInt_lt
  simp only [lo8, fits, Bool.and_eq_true, decide_eq_true_eq, Int32.le_iff_toInt_le, Int8.toInt_toInt32, show (-128 : Int32).toInt = -128 from by decide, show (127 : Int32).toInt = 127 from by decide]
  omega
/-- A' is A but that each place j of lo .. hi - 1 holds f j -/
def Laid (A A' : Cell) (lo hi : Nat) (f : Nat → Value) : Prop := A'.cls = A.cls ∧ A'.vm = A.vm ∧ A'.slots.size = A.slots.size ∧ ∀ i, A'.slots[i]? = if lo ≤ i ∧ i < hi then some (f i) else A.slots[i]?
theorem Laid.zero (A : Cell) (lo : Nat) (f : Nat → Value) : Laid A A lo (lo + 0) f := ⟨rfl, rfl, rfl, fun i => by rw [if_neg (by omega)]⟩
theorem Laid.step {A Ak : Cell} {lo k : Nat} {f : Nat → Value} {v : Value} (h : Laid A Ak lo k f) (hlo : lo ≤ k) (hk : k < Ak.slots.size) (hv : v = f k) : Laid A (Ak.setSlot k v) lo (k + 1) f := by
  refine ⟨h.1, h.2.1, by simpa [Cell.setSlot] using h.2.2.1, fun i => ?_⟩
  by_cases e : k = i
  · subst e; rw [Cell.slots_setSlot_self v hk, if_pos (by omega), hv]
  · rw [Cell.slots_setSlot_ne v e, h.2.2.2 i]
    by_cases q : lo ≤ i ∧ i < k
    · rw [if_pos q, if_pos (by omega)]
    · rw [if_neg q, if_neg (by omega)]
def U16 : String := "java/lang/StringUTF16"
namespace Cmp5
def yN : MethodName := ⟨"java/lang/StringUTF16", "compress", "([CI[BII)I"⟩
abbrev yB : ByteArray := jdk_52_method_21_code
theorem d0 : decode yB 0 = .ok (.iconst 0, 1) := by decide +kernel
theorem d1 : decode yB 1 = .ok (.istore 5, 2) := by decide +kernel
theorem d3 : decode yB 3 = .ok (.iload 5, 2) := by decide +kernel
theorem d5 : decode yB 5 = .ok (.iload 4, 2) := by decide +kernel
theorem d7 : decode yB 7 = .ok (.if_icmp (.ge) 37, 3) := by decide +kernel
theorem d10 : decode yB 10 = .ok (.aload_n 0, 1) := by decide +kernel
theorem d11 : decode yB 11 = .ok (.iload_n 1, 1) := by decide +kernel
theorem d12 : decode yB 12 = .ok (.caload, 1) := by decide +kernel
theorem d13 : decode yB 13 = .ok (.istore 6, 2) := by decide +kernel
theorem d15 : decode yB 15 = .ok (.iload 6, 2) := by decide +kernel
theorem d17 : decode yB 17 = .ok (.sipush 255, 3) := by decide +kernel
theorem d20 : decode yB 20 = .ok (.if_icmp (.le) 6, 3) := by decide +kernel
theorem d26 : decode yB 26 = .ok (.aload_n 2, 1) := by decide +kernel
theorem d27 : decode yB 27 = .ok (.iload_n 3, 1) := by decide +kernel
theorem d28 : decode yB 28 = .ok (.iload 6, 2) := by decide +kernel
theorem d30 : decode yB 30 = .ok (.i2b, 1) := by decide +kernel
theorem d31 : decode yB 31 = .ok (.bastore, 1) := by decide +kernel
theorem d32 : decode yB 32 = .ok (.iinc 1 1, 3) := by decide +kernel
theorem d35 : decode yB 35 = .ok (.iinc 3 1, 3) := by decide +kernel
theorem d38 : decode yB 38 = .ok (.iinc 5 1, 3) := by decide +kernel
theorem d41 : decode yB 41 = .ok (.goto (-38), 3) := by decide +kernel
theorem d44 : decode yB 44 = .ok (.iload 4, 2) := by decide +kernel
theorem d46 : decode yB 46 = .ok (.ireturn, 1) := by decide +kernel
def site : List Cond := []
def tab : Cond := tabOf yN yB 7 (some .int) site
def P (b : Addr) (A : Cell) (d : Addr) (B : Cell) (o q len : Nat) (args : Array Value) (s : State) : Prop := args = #[.ref b, .int (Int32.ofNat o), .ref d, .int (Int32.ofNat q), .int (Int32.ofNat len)] ∧ Ch b A s ∧ Arr .byte d B s ∧ b ≠ d ∧ o + len ≤ A.slots.size ∧ q + len ≤ B.slots.size ∧ ∀ i, i < len → ¬ 255 < cv A (o + i)
def E (b : Addr) (A : Cell) (d : Addr) (B : Cell) (o q len : Nat) (r : Option Value) (s u : State) : Prop := r = some (.int (Int32.ofNat len)) ∧ ∃ B', Put d B' s u ∧ Laid B B' q (q + len) (fun j => Value.int (lo8 (cv A (o + (j - q)))))
/-- no char of the range above 255: len; the places written hold each char's low byte -/
theorem law (l : Launch) (b : Addr) (A : Cell) (d : Addr) (B : Cell) (o q len : Nat) : Law l yN 5 5 0 0 yB 7 (some .int) site (P b A d B o q len) (E b A d B o q len) (copyLocs d q len) 0 0 := by
  refine Law.of_walk (plainFor_of_name (by decide +kernel)) (by decide +kernel) (by decide +kernel) (by decide) (fun _ _ h => by rw [h.1]; rfl) (fun _ U U' hal hh h => ⟨h.1, h.2.1.mv hal hh, h.2.2.1.mv hal hh, h.2.2.2⟩) (fun r U U' V V' h1 hal h2 h => ⟨h.1, h.2.elim fun B' q => ⟨B', q.1.mv h1 h2, q.2⟩⟩) ?_
  intro p e s m args below meth c s₁ X0 hexec hbytes hml hret hlk hnm hown hh0 W hP
  obtain ⟨rfl, hA, hB, hne, l1, l2, hp⟩ := hP
  have c1 : Steps p.tables e below (s₁.setTop (entryFrame m #[.ref b, .int (Int32.ofNat o), .ref d, .int (Int32.ofNat q), .int (Int32.ofNat len)] 7)) (s₁.setTop (mkF m 0 #[.val (.ref b), .val (.int (Int32.ofNat o)), .val (.ref d), .val (.int (Int32.ofNat q)), .val (.int (Int32.ofNat len)), .unset, .unset] [])) := entry rfl
  have hA0 := hA.1.mv X0.warmed.alike hh0
  have hB0 := hB.mv X0.warmed.alike hh0
  have a31 := hA.1.2.2.2
  have c2 : Steps p.tables e below (s₁.setTop (entryFrame m #[.ref b, .int (Int32.ofNat o), .ref d, .int (Int32.ofNat q), .int (Int32.ofNat len)] 7)) (s₁.setTop (mkF m 3 #[.val (.ref b), .val (.int (Int32.ofNat o)), .val (.ref d), .val (.int (Int32.ofNat q)), .val (.int (Int32.ofNat len)), .val (.int 0), .unset] [])) := c1.trans (by
    refine iconstV X0.here hexec rfl 0 (hb hbytes d0) (by decide) ?_
    refine XS.istore X0.here hexec rfl (hb hbytes d1) rfl rfl ?_
    exact Steps.refl _)
  have loop : ∀ (r i : Nat), i + r = len → ∀ (z : Slot), (z = .unset ∨ ∃ w, z = .val w ∧ w.category = 1) → ∀ (Tl : State) (Bk : Cell), Stand p l e { frames := 0, locals := 0, cells := 0, slots := 0 } s m #[.ref b, .int (Int32.ofNat o), .ref d, .int (Int32.ofNat q), .int (Int32.ofNat len)] below meth c Tl ([] ++ copyLocs d q i) 0 0 → Put d Bk s₁ Tl → Laid B Bk q (q + i) (fun j => Value.int (lo8 (cv A (o + (j - q))))) →
      Steps p.tables e below (s₁.setTop (entryFrame m #[.ref b, .int (Int32.ofNat o), .ref d, .int (Int32.ofNat q), .int (Int32.ofNat len)] 7)) (Tl.setTop (mkF m 3 #[.val (.ref b), .val (.int (Int32.ofNat (o + i))), .val (.ref d), .val (.int (Int32.ofNat (q + i))), .val (.int (Int32.ofNat len)), .val (.int (Int32.ofNat i)), z] [])) → ∃ (T' : State) (B' : Cell) (z' : Slot), Stand p l e { frames := 0, locals := 0, cells := 0, slots := 0 } s m #[.ref b, .int (Int32.ofNat o), .ref d, .int (Int32.ofNat q), .int (Int32.ofNat len)] below meth c T' ([] ++ copyLocs d q len) 0 0 ∧ Put d B' s₁ T' ∧ Laid B B' q (q + len) (fun j => Value.int (lo8 (cv A (o + (j - q))))) ∧
      Steps p.tables e below (s₁.setTop (entryFrame m #[.ref b, .int (Int32.ofNat o), .ref d, .int (Int32.ofNat q), .int (Int32.ofNat len)] 7)) (T'.setTop (mkF m 3 #[.val (.ref b), .val (.int (Int32.ofNat (o + len))), .val (.ref d), .val (.int (Int32.ofNat (q + len))), .val (.int (Int32.ofNat len)), .val (.int (Int32.ofNat len)), z'] [])) := by
    intro r
    induction r with
    | zero =>
      intro i hi z hz Tl Bk Xl pl fl cl
      have hil : i = len := by omega
      rw [hil] at Xl fl cl
      exact ⟨Tl, Bk, z, Xl, pl, fl, cl⟩
    | succ r ih =>
      intro i hi z hz Tl Bk Xl pl fl cl
      have all := X0.warmed.alike.symm.trans Xl.warmed.alike
      have hAl := hA0.keep all (pl.other hne hA0.1)
      have hBk := hB0.like all pl.1 fl.1 fl.2.1 fl.2.2.1
      have hlt : q + i < Bk.slots.size := by rw [fl.2.2.1]; omega
      have c3 : Steps p.tables e below (s₁.setTop (entryFrame m #[.ref b, .int (Int32.ofNat o), .ref d, .int (Int32.ofNat q), .int (Int32.ofNat len)] 7)) (Tl.setTop (mkF m 12 #[.val (.ref b), .val (.int (Int32.ofNat (o + i))), .val (.ref d), .val (.int (Int32.ofNat (q + i))), .val (.int (Int32.ofNat len)), .val (.int (Int32.ofNat i)), z] [.int (Int32.ofNat (o + i)), .ref b])) := cl.trans (by
        refine XS.iload Xl.here hexec rfl (hb hbytes d3) rfl ?_
        refine XS.iload Xl.here hexec rfl (hb hbytes d5) rfl ?_
        refine XS.icmpNo Xl.here hexec rfl (hb hbytes d7) rfl (ii_ge_f (lt32 (by omega) (by omega))) ?_
        refine XS.aloadN Xl.here hexec rfl (hb hbytes d10) rfl rfl ?_
        refine XS.iloadN Xl.here hexec rfl (hb hbytes d11) rfl ?_
        exact Steps.refl _)
      have c4 : Steps p.tables e below (s₁.setTop (entryFrame m #[.ref b, .int (Int32.ofNat o), .ref d, .int (Int32.ofNat q), .int (Int32.ofNat len)] 7)) (Tl.setTop (mkF m 13 #[.val (.ref b), .val (.int (Int32.ofNat (o + i))), .val (.ref d), .val (.int (Int32.ofNat (q + i))), .val (.int (Int32.ofNat len)), .val (.int (Int32.ofNat i)), z] [.int (cv A (o + i))])) := c3.trans (by
        refine Xl.aget hexec hAl rfl (hA.get (i := o + i) (by omega)) rfl rfl (hb hbytes d12) ?_
        exact Steps.refl _)
      have c5 : Steps p.tables e below (s₁.setTop (entryFrame m #[.ref b, .int (Int32.ofNat o), .ref d, .int (Int32.ofNat q), .int (Int32.ofNat len)] 7)) (Tl.setTop (mkF m 15 #[.val (.ref b), .val (.int (Int32.ofNat (o + i))), .val (.ref d), .val (.int (Int32.ofNat (q + i))), .val (.int (Int32.ofNat len)), .val (.int (Int32.ofNat i)), .val (.int (cv A (o + i)))] [])) := c4.trans (by
        refine XS.istoreS Xl.here hexec rfl (hb hbytes d13) rfl rfl hz ?_
        exact Steps.refl _)
      have c6 : Steps p.tables e below (s₁.setTop (entryFrame m #[.ref b, .int (Int32.ofNat o), .ref d, .int (Int32.ofNat q), .int (Int32.ofNat len)] 7)) (Tl.setTop (mkF m 31 #[.val (.ref b), .val (.int (Int32.ofNat (o + i))), .val (.ref d), .val (.int (Int32.ofNat (q + i))), .val (.int (Int32.ofNat len)), .val (.int (Int32.ofNat i)), .val (.int (cv A (o + i)))] [.int (lo8 (cv A (o + i))), .int (Int32.ofNat (q + i)), .ref d])) := c5.trans (by
        refine XS.iload Xl.here hexec rfl (hb hbytes d15) rfl ?_
        refine sipushV Xl.here hexec rfl 255 (hb hbytes d17) (by decide) ?_
        refine XS.icmpYes Xl.here hexec rfl (pc0 := 20) rfl (hb hbytes d20) rfl (ii_le_t (hp i (by omega))) (by decide) rfl ?_
        refine XS.aloadN Xl.here hexec rfl (hb hbytes d26) rfl rfl ?_
        refine XS.iloadN Xl.here hexec rfl (hb hbytes d27) rfl ?_
        refine XS.iload Xl.here hexec rfl (hb hbytes d28) rfl ?_
        refine i2b Xl.here hexec rfl (hb hbytes d30) rfl ?_
        exact Steps.refl _)
      obtain ⟨T7, X7, p7, st7⟩ := Xl.aput hexec hBk rfl hlt rfl (fits_lo8 (cv A (o + i))) (g := (mkF m 31 #[.val (.ref b), .val (.int (Int32.ofNat (o + i))), .val (.ref d), .val (.int (Int32.ofNat (q + i))), .val (.int (Int32.ofNat len)), .val (.int (Int32.ofNat i)), .val (.int (cv A (o + i)))] [.int (lo8 (cv A (o + i))), .int (Int32.ofNat (q + i)), .ref d])) rfl (rest := []) rfl (hb hbytes d31)
      have c8 : Steps p.tables e below (s₁.setTop (entryFrame m #[.ref b, .int (Int32.ofNat o), .ref d, .int (Int32.ofNat q), .int (Int32.ofNat len)] 7)) (T7.setTop (mkF m 32 #[.val (.ref b), .val (.int (Int32.ofNat (o + i))), .val (.ref d), .val (.int (Int32.ofNat (q + i))), .val (.int (Int32.ofNat len)), .val (.int (Int32.ofNat i)), .val (.int (cv A (o + i)))] [])) := c6.trans (st7 _ (Steps.refl _))
      have c9 : Steps p.tables e below (s₁.setTop (entryFrame m #[.ref b, .int (Int32.ofNat o), .ref d, .int (Int32.ofNat q), .int (Int32.ofNat len)] 7)) (T7.setTop (mkF m 3 #[.val (.ref b), .val (.int (Int32.ofNat (o + i) + 1)), .val (.ref d), .val (.int (Int32.ofNat (q + i) + 1)), .val (.int (Int32.ofNat len)), .val (.int (Int32.ofNat i + 1)), .val (.int (cv A (o + i)))] [])) := c8.trans (by
        refine iincV X7.here hexec rfl 1 (hb hbytes d32) (by decide) rfl rfl ?_
        refine iincV X7.here hexec rfl 1 (hb hbytes d35) (by decide) rfl rfl ?_
        refine iincV X7.here hexec rfl 1 (hb hbytes d38) (by decide) rfl rfl ?_
        refine XS.goto X7.here hexec rfl (pc0 := 41) rfl (hb hbytes d41) (by decide) rfl ?_
        exact Steps.refl _)
      have c10 : Steps p.tables e below (s₁.setTop (entryFrame m #[.ref b, .int (Int32.ofNat o), .ref d, .int (Int32.ofNat q), .int (Int32.ofNat len)] 7)) (T7.setTop (mkF m 3 #[.val (.ref b), .val (.int (Int32.ofNat (o + (i + 1)))), .val (.ref d), .val (.int (Int32.ofNat (q + (i + 1)))), .val (.int (Int32.ofNat len)), .val (.int (Int32.ofNat (i + 1))), .val (.int (cv A (o + i)))] [])) := by
        have := c9
        rw [succ32, succ32, succ32] at this
        exact this
      exact ih (i + 1) (by omega) _ (Or.inr ⟨_, rfl, rfl⟩) T7 _ (by rw [copyLocs_step, ← List.append_assoc]; exact X7) (pl.trans p7) (fl.step (by omega) hlt (by simp)) c10
  obtain ⟨T9, B9, z9, X9, p9, f9, g9⟩ := loop len 0 (by omega) .unset (Or.inl rfl) s₁ B (by simpa [copyLocs] using X0) ⟨hB0.1, fun _ _ => rfl, rfl⟩ (Laid.zero _ _ _) c2
  have c11 : Steps p.tables e below (s₁.setTop (entryFrame m #[.ref b, .int (Int32.ofNat o), .ref d, .int (Int32.ofNat q), .int (Int32.ofNat len)] 7)) (T9.setTop (mkF m 46 #[.val (.ref b), .val (.int (Int32.ofNat (o + len))), .val (.ref d), .val (.int (Int32.ofNat (q + len))), .val (.int (Int32.ofNat len)), .val (.int (Int32.ofNat len)), z9] [.int (Int32.ofNat len)])) := g9.trans (by
    refine XS.iload X9.here hexec rfl (hb hbytes d3) rfl ?_
    refine XS.iload X9.here hexec rfl (hb hbytes d5) rfl ?_
    refine XS.icmpYes X9.here hexec rfl (pc0 := 7) rfl (hb hbytes d7) rfl (ii_ge_t (nlt32 (by omega) (Nat.le_refl _))) (by decide) rfl ?_
    refine XS.iload X9.here hexec rfl (hb hbytes d44) rfl ?_
    exact Steps.refl _)
  exact ⟨T9, some (.int (Int32.ofNat len)), _, _, _, X9, by simp, rfl, rfl, (fun h => by cases h), ⟨rfl, B9, p9.from hh0, f9⟩, fun fs hl => c11.trans (X9.ireturnOut hexec hret rfl (Or.inl rfl) (hb hbytes d46) hl)⟩
end Cmp5
namespace Cmp3
def yN : MethodName := ⟨"java/lang/StringUTF16", "compress", "([CII)[B"⟩
abbrev yB : ByteArray := jdk_52_method_16_code
theorem d0 : decode yB 0 = .ok (.iload_n 2, 1) := by decide +kernel
theorem d1 : decode yB 1 = .ok (.newarray .byte, 2) := by decide +kernel
theorem d3 : decode yB 3 = .ok (.astore_n 3, 1) := by decide +kernel
theorem d4 : decode yB 4 = .ok (.aload_n 0, 1) := by decide +kernel
theorem d5 : decode yB 5 = .ok (.iload_n 1, 1) := by decide +kernel
theorem d6 : decode yB 6 = .ok (.aload_n 3, 1) := by decide +kernel
theorem d7 : decode yB 7 = .ok (.iconst 0, 1) := by decide +kernel
theorem d8 : decode yB 8 = .ok (.iload_n 2, 1) := by decide +kernel
theorem d9 : decode yB 9 = .ok (.invokestatic 115, 3) := by decide +kernel
theorem d12 : decode yB 12 = .ok (.istore 4, 2) := by decide +kernel
theorem d14 : decode yB 14 = .ok (.iload 4, 2) := by decide +kernel
theorem d16 : decode yB 16 = .ok (.iload_n 2, 1) := by decide +kernel
theorem d17 : decode yB 17 = .ok (.if_icmp (.eq) 40, 3) := by decide +kernel
theorem d57 : decode yB 57 = .ok (.aload_n 3, 1) := by decide +kernel
theorem d58 : decode yB 58 = .ok (.areturn, 1) := by decide +kernel
def site : List Cond := [.arrayClass .byte, Cmp5.tab] ++ staticW U16 115 Cmp5.yN
def tab : Cond := tabOf yN yB 6 (some (.array .byte)) site
def P (b : Addr) (A : Cell) (o len : Nat) (args : Array Value) (s : State) : Prop := args = #[.ref b, .int (Int32.ofNat o), .int (Int32.ofNat len)] ∧ Ch b A s ∧ o + len ≤ A.slots.size ∧ len ≤ 536870912 ∧ ∀ i, i < len → ¬ 255 < cv A (o + i)
def E (b : Addr) (A : Cell) (o len : Nat) (r : Option Value) (s u : State) : Prop := NewArr .byte "[B" len (fun j => .int (lo8 (cv A (o + j)))) r s u ∧ u.heap.size = s.heap.size + 1
/-- no char of the range above 255: a new byte[] of their low bytes -/
theorem law (l : Launch) (b : Addr) (A : Cell) (o len : Nat) : Law l yN 3 3 1 18 yB 6 (some (.array .byte)) site (P b A o len) (E b A o len) [] 1 len := by
  refine Law.of_walk (plainFor_of_name (by decide +kernel)) (by decide +kernel) (by decide +kernel) (by decide) (fun _ _ h => by rw [h.1]; rfl) (fun _ U U' hal hh h => ⟨h.1, h.2.1.mv hal hh, h.2.2⟩) (fun r U U' V V' h1 hal h2 h => ⟨NewArr.mv r U U' V V' h1 hal h2 h.1, by rw [h1, h2]; exact h.2⟩) ?_
  intro p e s m args below meth c s₁ X0 hexec hbytes hml hret hlk hnm hown hh0 W hP
  obtain ⟨rfl, hA, l1, l2, hp⟩ := hP
  have a31 := hA.1.2.2.2
  have c1 : Steps p.tables e below (s₁.setTop (entryFrame m #[.ref b, .int (Int32.ofNat o), .int (Int32.ofNat len)] 6)) (s₁.setTop (mkF m 0 #[.val (.ref b), .val (.int (Int32.ofNat o)), .val (.int (Int32.ofNat len)), .unset, .unset, .unset] [])) := entry rfl
  have c2 : Steps p.tables e below (s₁.setTop (entryFrame m #[.ref b, .int (Int32.ofNat o), .int (Int32.ofNat len)] 6)) (s₁.setTop (mkF m 1 #[.val (.ref b), .val (.int (Int32.ofNat o)), .val (.int (Int32.ofNat len)), .unset, .unset, .unset] [.int (Int32.ofNat len)])) := c1.trans (by
    refine XS.iloadN X0.here hexec rfl (hb hbytes d0) rfl ?_
    exact Steps.refl _)
  obtain ⟨T3, B3, X3, ba3, bs3, bv3, bh3, bf3, st3⟩ := X0.anew hexec (atype := .byte) (wk W (.arrayClass .byte)) rfl (by show len * 1 ≤ _; omega) (by omega) (g := (mkF m 1 #[.val (.ref b), .val (.int (Int32.ofNat o)), .val (.int (Int32.ofNat len)), .unset, .unset, .unset] [.int (Int32.ofNat len)])) rfl (hb hbytes d1) (rest := []) rfl (Nat.le_refl _) (by show 0 + len ≤ len; omega)
  rw [hh0] at ba3 st3
  have kp3 : XT.Kept s T3 := (XT.Kept.of_eq hh0).push bh3
  have hA3 := hA.keep X3.warmed.alike (kp3 _ _ hA.1.1)
  have hne : b ≠ s.heap.size := hA.1.ne
  have c4 : Steps p.tables e below (s₁.setTop (entryFrame m #[.ref b, .int (Int32.ofNat o), .int (Int32.ofNat len)] 6)) (T3.setTop (mkF m 3 #[.val (.ref b), .val (.int (Int32.ofNat o)), .val (.int (Int32.ofNat len)), .unset, .unset, .unset] [.ref s.heap.size])) := c2.trans (st3 _ (Steps.refl _))
  have c5 : Steps p.tables e below (s₁.setTop (entryFrame m #[.ref b, .int (Int32.ofNat o), .int (Int32.ofNat len)] 6)) (T3.setTop (mkF m 9 #[.val (.ref b), .val (.int (Int32.ofNat o)), .val (.int (Int32.ofNat len)), .val (.ref s.heap.size), .unset, .unset] [.int (Int32.ofNat len), .int 0, .ref s.heap.size, .int (Int32.ofNat o), .ref b])) := c4.trans (by
    refine XS.astoreN X3.here hexec rfl (hb hbytes d3) rfl rfl rfl ?_
    refine XS.aloadN X3.here hexec rfl (hb hbytes d4) rfl rfl ?_
    refine XS.iloadN X3.here hexec rfl (hb hbytes d5) rfl ?_
    refine XS.aloadN X3.here hexec rfl (hb hbytes d6) rfl rfl ?_
    refine iconstV X3.here hexec rfl 0 (hb hbytes d7) (by decide) ?_
    refine XS.iloadN X3.here hexec rfl (hb hbytes d8) rfl ?_
    exact Steps.refl _)
  obtain ⟨v6, T6, X6, E6, g6⟩ := X3.callS hexec (Cmp5.law l b A s.heap.size B3 o 0 len) hown (wks W (staticW U16 115 Cmp5.yN)) (wk W Cmp5.tab) (W := 0) (Nat.le_of_ble_eq_true rfl) (Nat.le_of_ble_eq_true rfl) (Nat.le_refl _) (by show 0 + len + 0 ≤ len; omega) (g := (mkF m 9 #[.val (.ref b), .val (.int (Int32.ofNat o)), .val (.int (Int32.ofNat len)), .val (.ref s.heap.size), .unset, .unset] [.int (Int32.ofNat len), .int (Int32.ofNat 0), .ref s.heap.size, .int (Int32.ofNat o), .ref b])) rfl (by rw [hml]; rfl) c5 (argsL := [.ref b, .int (Int32.ofNat o), .ref s.heap.size, .int (Int32.ofNat 0), .int (Int32.ofNat len)]) (rest := []) rfl rfl (by show 2 * 0 + 0 ≤ _; decide) (hb hbytes d9) (⟨rfl, hA3, ba3, hne, l1, by rw [bs3]; simp, hp⟩)
  obtain ⟨rfl, B6, p6, f6⟩ := E6
  have c7 : Steps p.tables e below (s₁.setTop (entryFrame m #[.ref b, .int (Int32.ofNat o), .int (Int32.ofNat len)] 6)) (T6.setTop (mkF m 12 #[.val (.ref b), .val (.int (Int32.ofNat o)), .val (.int (Int32.ofNat len)), .val (.ref s.heap.size), .unset, .unset] [.int (Int32.ofNat len)])) := g6
  have c8 : Steps p.tables e below (s₁.setTop (entryFrame m #[.ref b, .int (Int32.ofNat o), .int (Int32.ofNat len)] 6)) (T6.setTop (mkF m 58 #[.val (.ref b), .val (.int (Int32.ofNat o)), .val (.int (Int32.ofNat len)), .val (.ref s.heap.size), .val (.int (Int32.ofNat len)), .unset] [.ref s.heap.size])) := c7.trans (by
    refine XS.istore X6.here hexec rfl (hb hbytes d12) rfl rfl ?_
    refine XS.iload X6.here hexec rfl (hb hbytes d14) rfl ?_
    refine XS.iloadN X6.here hexec rfl (hb hbytes d16) rfl ?_
    refine XS.icmpYes X6.here hexec rfl (pc0 := 17) rfl (hb hbytes d17) rfl (ii_eq_t rfl) (by decide) rfl ?_
    refine XS.aloadN X6.here hexec rfl (hb hbytes d57) rfl rfl ?_
    exact Steps.refl _)
  have X8 := X6.wide (L' := []) (cells' := 1) (slots' := len) (fun x hx hlt => by
    simp only [List.nil_append, copyLocs, List.mem_map, List.mem_range] at hx
    obtain ⟨i, -, rfl⟩ := hx
    exact absurd hlt (Nat.lt_irrefl _)) (Nat.le_refl _) (by omega)
  exact ⟨T6, some (.ref s.heap.size), _, _, _, X8, rfl, rfl, rfl, (fun h => by cases h), ⟨⟨rfl, B6, ba3.like (X3.warmed.alike.symm.trans X6.warmed.alike) p6.1 f6.1 f6.2.1 f6.2.2.1, f6.2.1.trans bv3, by rw [X6.warmed.alike.findClass, f6.1]; exact bf3, by rw [f6.2.2.1, bs3]; simp, fun j hj => by rw [f6.2.2.2 j, if_pos (by omega)]; rfl, kp3.put p6 (Nat.le_refl _)⟩, by rw [p6.2.2, bh3, hh0]; simp⟩, fun fs hl => c8.trans (X8.areturnOut hexec rfl hret rfl (hb hbytes d58) hl)⟩
end Cmp3
namespace CodL
def yN : MethodName := ⟨"java/lang/StringUTF16", "coderFromArrayLen", "([BI)B"⟩
abbrev yB : ByteArray := jdk_52_method_15_code
theorem d0 : decode yB 0 = .ok (.iload_n 1, 1) := by decide +kernel
theorem d1 : decode yB 1 = .ok (.aload_n 0, 1) := by decide +kernel
theorem d2 : decode yB 2 = .ok (.arraylength, 1) := by decide +kernel
theorem d3 : decode yB 3 = .ok (.isub, 1) := by decide +kernel
theorem d4 : decode yB 4 = .ok (.bipush 31, 2) := by decide +kernel
theorem d6 : decode yB 6 = .ok (.iushr, 1) := by decide +kernel
theorem d7 : decode yB 7 = .ok (.i2b, 1) := by decide +kernel
theorem d8 : decode yB 8 = .ok (.ireturn, 1) := by decide +kernel
def site : List Cond := []
def tab : Cond := tabOf yN yB 2 (some .byte) site
def P (d : Addr) (B : Cell) (args : Array Value) (s : State) : Prop := args = #[.ref d, .int (Int32.ofNat B.slots.size)] ∧ Arr .byte d B s
def E (r : Option Value) (s u : State) : Prop := XT.PureE (some (.int 0)) r s u
/-- an array as long as the number of chars: LATIN1 -/
theorem law (l : Launch) (d : Addr) (B : Cell) : Law l yN 2 2 0 0 yB 2 (some .byte) site (P d B) E [] 0 0 := by
  refine Law.of_walk (plainFor_of_name (by decide +kernel)) (by decide +kernel) (by decide +kernel) (by decide) (fun _ _ h => by rw [h.1]; rfl) (fun _ U U' hal hh h => ⟨h.1, h.2.mv hal hh⟩) (fun r U U' V V' h1 hal h2 h => XT.PureE.mv r U U' V V' h1 hal h2 h) ?_
  intro p e s m args below meth c s₁ X0 hexec hbytes hml hret hlk hnm hown hh0 W hP
  obtain ⟨rfl, hB⟩ := hP
  have hB0 := hB.mv X0.warmed.alike hh0
  have c1 : Steps p.tables e below (s₁.setTop (entryFrame m #[.ref d, .int (Int32.ofNat B.slots.size)] 2)) (s₁.setTop (mkF m 0 #[.val (.ref d), .val (.int (Int32.ofNat B.slots.size))] [])) := entry rfl
  have c2 : Steps p.tables e below (s₁.setTop (entryFrame m #[.ref d, .int (Int32.ofNat B.slots.size)] 2)) (s₁.setTop (mkF m 2 #[.val (.ref d), .val (.int (Int32.ofNat B.slots.size))] [.ref d, .int (Int32.ofNat B.slots.size)])) := c1.trans (by
    refine XS.iloadN X0.here hexec rfl (hb hbytes d0) rfl ?_
    refine XS.aloadN X0.here hexec rfl (hb hbytes d1) rfl rfl ?_
    exact Steps.refl _)
  have c3 : Steps p.tables e below (s₁.setTop (entryFrame m #[.ref d, .int (Int32.ofNat B.slots.size)] 2)) (s₁.setTop (mkF m 8 #[.val (.ref d), .val (.int (Int32.ofNat B.slots.size))] [.int (lo8 (ushr (Int32.ofNat B.slots.size - Int32.ofNat B.slots.size) 31))])) := c2.trans (by
    refine X0.alen hexec hB0 rfl rfl (hb hbytes d2) ?_
    refine XS.isub X0.here hexec rfl (hb hbytes d3) rfl ?_
    refine bipushV X0.here hexec rfl 31 (hb hbytes d4) (by decide) ?_
    refine iushr X0.here hexec rfl (hb hbytes d6) rfl ?_
    refine i2b X0.here hexec rfl (hb hbytes d7) rfl ?_
    exact Steps.refl _)
  have e0 : lo8 (ushr (Int32.ofNat B.slots.size - Int32.ofNat B.slots.size) 31) = 0 := by rw [Int32.sub_self]; decide
  rw [e0] at c3
  exact ⟨s₁, some (.int 0), _, _, _, X0, rfl, rfl, rfl, (fun h => by cases h), ⟨rfl, hh0⟩, fun fs hl => c3.trans (X0.ireturnOut hexec hret rfl (Or.inr (Or.inr (Or.inl rfl))) (hb hbytes d8) hl)⟩
end CodL
/-- the String at a is Latin-1 over a new byte[] (the heap's one new cell): the low bytes of the len chars of A from o on; every cell but a is kept -/
def Got (a : Addr) (D : Cell) (fV fC : Field) (A : Cell) (o len : Nat) (r : Option Value) (s u : State) : Prop := r = none ∧ ∃ D' V : Cell, Blank "java/lang/String" a D' u ∧ Same D D' [fV.slot, fC.slot] ∧ D'.slots[fV.slot]? = some (.ref s.heap.size) ∧ D'.slots[fC.slot]? = some (.int 0) ∧ Arr .byte s.heap.size V u ∧ V.vm = .none ∧ u.vm.findClass "[B" = some V.cls ∧ V.slots.size = len ∧ (∀ j, j < len → V.slots[j]? = some (.int (lo8 (cv A (o + j))))) ∧ (∀ (y : Addr) (c : Cell), y ≠ a → s.heap[y]? = some c → u.heap[y]? = some c) ∧ u.heap.size = s.heap.size + 1
theorem Got.mv {a : Addr} {D A : Cell} {fV fC : Field} {o len : Nat} : ∀ r (U U' V V' : State), U'.heap = U.heap → V.vm.Alike V'.vm → V'.heap = V.heap → Got a D fV fC A o len r U V → Got a D fV fC A o len r U' V' :=
  fun r U U' V V' h1 hal h2 ⟨e0, D', X, a1, a2, a3, a4, a5, a6, a7, a8, a9, a10, a11⟩ => ⟨e0, D', X, a1.mv hal h2, a2, by rw [h1]; exact a3, a4, by rw [h1]; exact a5.mv hal h2, a6, by rw [hal.findClass]; exact a7, a8, a9, by rw [h1, h2]; exact a10, by rw [h1, h2]; exact a11⟩
namespace New4
def yN : MethodName := ⟨"java/lang/String", "<init>", "([CIILjava/lang/Void;)V"⟩
abbrev yB : ByteArray := jdk_42_method_149_code
theorem d0 : decode yB 0 = .ok (.aload_n 0, 1) := by decide +kernel
theorem d1 : decode yB 1 = .ok (.invokespecial 1, 3) := by decide +kernel
theorem d4 : decode yB 4 = .ok (.iload_n 3, 1) := by decide +kernel
theorem d5 : decode yB 5 = .ok (.ifCond (.ne) 22, 3) := by decide +kernel
theorem d27 : decode yB 27 = .ok (.getstatic 38, 3) := by decide +kernel
theorem d30 : decode yB 30 = .ok (.ifCond (.eq) 28, 3) := by decide +kernel
theorem d33 : decode yB 33 = .ok (.aload_n 1, 1) := by decide +kernel
theorem d34 : decode yB 34 = .ok (.iload_n 2, 1) := by decide +kernel
theorem d35 : decode yB 35 = .ok (.iload_n 3, 1) := by decide +kernel
theorem d36 : decode yB 36 = .ok (.invokestatic 177, 3) := by decide +kernel
theorem d39 : decode yB 39 = .ok (.astore 5, 2) := by decide +kernel
theorem d41 : decode yB 41 = .ok (.aload_n 0, 1) := by decide +kernel
theorem d42 : decode yB 42 = .ok (.aload 5, 2) := by decide +kernel
theorem d44 : decode yB 44 = .ok (.iload_n 3, 1) := by decide +kernel
theorem d45 : decode yB 45 = .ok (.invokestatic 47, 3) := by decide +kernel
theorem d48 : decode yB 48 = .ok (.putfield 15, 3) := by decide +kernel
theorem d51 : decode yB 51 = .ok (.aload_n 0, 1) := by decide +kernel
theorem d52 : decode yB 52 = .ok (.aload 5, 2) := by decide +kernel
theorem d54 : decode yB 54 = .ok (.putfield 9, 3) := by decide +kernel
theorem d57 : decode yB 57 = .ok (.return_, 1) := by decide +kernel
def site : List Cond := [.fieldLink "java/lang/String" 38 "java/lang/String" "COMPACT_STRINGS" "Z", Cmp3.tab, CodL.tab, .laysFinal "java/lang/String" "java/lang/String" "value" "[B", .fieldLink "java/lang/String" 9 "java/lang/String" "value" "[B", .laysFinal "java/lang/String" "java/lang/String" "coder" "B", .fieldLink "java/lang/String" 15 "java/lang/String" "coder" "B"] ++ objW "java/lang/String" 1 ++ staticW "java/lang/String" 177 Cmp3.yN ++ staticW "java/lang/String" 47 CodL.yN
def tab : Cond := tabOf yN yB 6 none site
def P (a : Addr) (D : Cell) (fV fC : Field) (b : Addr) (A : Cell) (z : Int32) (o len : Nat) (args : Array Value) (s : State) : Prop := args = #[.ref a, .ref b, .int (Int32.ofNat o), .int (Int32.ofNat len), .null] ∧ Blank "java/lang/String" a D s ∧ Found "java/lang/String" "value" "[B" fV s ∧ Found "java/lang/String" "coder" "B" fC s ∧ Ch b A s ∧ StaticIs s "java/lang/String" "COMPACT_STRINGS" "Z" (.int z) ∧ ¬ z = 0 ∧ 0 < len ∧ o + len ≤ A.slots.size ∧ len ≤ 536870912 ∧ ∀ i, i < len → ¬ 255 < cv A (o + i)
def E (a : Addr) (D : Cell) (fV fC : Field) (A : Cell) (o len : Nat) (r : Option Value) (s u : State) : Prop := Got a D fV fC A o len r s u
/-- len > 0, no char of the range above 255: a Latin-1 String of their low bytes -/
theorem law (l : Launch) (a : Addr) (D : Cell) (fV fC : Field) (b : Addr) (A : Cell) (z : Int32) (o len : Nat) : Law l yN 5 4 2 35 yB 6 none site (P a D fV fC b A z o len) (E a D fV fC A o len) [⟨a, fC.slot⟩, ⟨a, fV.slot⟩] 1 len := by
  refine Law.of_walk (plainFor_of_name (by decide +kernel)) (by decide +kernel) (by decide +kernel) (by decide) (fun _ _ h => by rw [h.1]; rfl) (fun _ U U' hal hh h => ⟨h.1, h.2.1.mv hal hh, h.2.2.1.al hal, h.2.2.2.1.al hal, h.2.2.2.2.1.mv hal hh, h.2.2.2.2.2.1.there hal hh, h.2.2.2.2.2.2⟩) (fun r U U' V V' h1 hal h2 h => Got.mv r U U' V V' h1 hal h2 h) ?_
  intro p e s m args below meth c s₁ X0 hexec hbytes hml hret hlk hnm hown hh0 W hP
  obtain ⟨rfl, hB, f1, f2, hA, s1, hz, l0, l1, l2, hp⟩ := hP
  have a31 := hA.1.2.2.2
  have c1 : Steps p.tables e below (s₁.setTop (entryFrame m #[.ref a, .ref b, .int (Int32.ofNat o), .int (Int32.ofNat len), .null] 6)) (s₁.setTop (mkF m 0 #[.val (.ref a), .val (.ref b), .val (.int (Int32.ofNat o)), .val (.int (Int32.ofNat len)), .val .null, .unset] [])) := entry rfl
  have c2 : Steps p.tables e below (s₁.setTop (entryFrame m #[.ref a, .ref b, .int (Int32.ofNat o), .int (Int32.ofNat len), .null] 6)) (s₁.setTop (mkF m 1 #[.val (.ref a), .val (.ref b), .val (.int (Int32.ofNat o)), .val (.int (Int32.ofNat len)), .val .null, .unset] [.ref a])) := c1.trans (by
    refine XS.aloadN X0.here hexec rfl (hb hbytes d0) rfl rfl ?_
    exact Steps.refl _)
  obtain ⟨T3, X3, q3, st3⟩ := X0.oinit hexec hown (wks W (objW "java/lang/String" 1)) (g := (mkF m 1 #[.val (.ref a), .val (.ref b), .val (.int (Int32.ofNat o)), .val (.int (Int32.ofNat len)), .val .null, .unset] [.ref a])) rfl (by rw [hml]; rfl) (rest := []) rfl (hb hbytes d1) (W := 0) (by show 2 * 0 + 0 ≤ _; decide) (Nat.le_of_ble_eq_true rfl) (Nat.le_of_ble_eq_true rfl)
  have hh3 := q3.trans hh0
  have c4 : Steps p.tables e below (s₁.setTop (entryFrame m #[.ref a, .ref b, .int (Int32.ofNat o), .int (Int32.ofNat len), .null] 6)) (T3.setTop (mkF m 27 #[.val (.ref a), .val (.ref b), .val (.int (Int32.ofNat o)), .val (.int (Int32.ofNat len)), .val .null, .unset] [])) := (c2.trans (st3 _ (Steps.refl _))).trans (by
    refine XS.iloadN X3.here hexec rfl (hb hbytes d4) rfl ?_
    refine XS.ifYes X3.here hexec rfl (pc0 := 5) rfl (hb hbytes d5) rfl (i0_ne_t (nz32 (by omega) l0)) (by decide) rfl ?_
    exact Steps.refl _)
  obtain ⟨T5, X5, q5, st5⟩ := X3.sget hexec hown (wk W (.fieldLink "java/lang/String" 38 "java/lang/String" "COMPACT_STRINGS" "Z")) s1 (fun _ _ h => by rw [hh3]; exact h) (g := (mkF m 27 #[.val (.ref a), .val (.ref b), .val (.int (Int32.ofNat o)), .val (.int (Int32.ofNat len)), .val .null, .unset] [])) rfl (hb hbytes d27)
  have hh5 := q5.trans hh3
  have c6 : Steps p.tables e below (s₁.setTop (entryFrame m #[.ref a, .ref b, .int (Int32.ofNat o), .int (Int32.ofNat len), .null] 6)) (T5.setTop (mkF m 30 #[.val (.ref a), .val (.ref b), .val (.int (Int32.ofNat o)), .val (.int (Int32.ofNat len)), .val .null, .unset] [.int z])) := c4.trans (st5 _ (Steps.refl _))
  have c7 : Steps p.tables e below (s₁.setTop (entryFrame m #[.ref a, .ref b, .int (Int32.ofNat o), .int (Int32.ofNat len), .null] 6)) (T5.setTop (mkF m 36 #[.val (.ref a), .val (.ref b), .val (.int (Int32.ofNat o)), .val (.int (Int32.ofNat len)), .val .null, .unset] [.int (Int32.ofNat len), .int (Int32.ofNat o), .ref b])) := c6.trans (by
    refine XS.ifNo X5.here hexec rfl (hb hbytes d30) rfl (i0_eq_f hz) ?_
    refine XS.aloadN X5.here hexec rfl (hb hbytes d33) rfl rfl ?_
    refine XS.iloadN X5.here hexec rfl (hb hbytes d34) rfl ?_
    refine XS.iloadN X5.here hexec rfl (hb hbytes d35) rfl ?_
    exact Steps.refl _)
  obtain ⟨v8, T8, X8, E8, g8⟩ := X5.callS hexec (Cmp3.law l b A o len) hown (wks W (staticW "java/lang/String" 177 Cmp3.yN)) (wk W Cmp3.tab) (W := 0) (Nat.le_of_ble_eq_true rfl) (Nat.le_of_ble_eq_true rfl) (Nat.le_refl _) (by show 0 + len ≤ len; omega) (g := (mkF m 36 #[.val (.ref a), .val (.ref b), .val (.int (Int32.ofNat o)), .val (.int (Int32.ofNat len)), .val .null, .unset] [.int (Int32.ofNat len), .int (Int32.ofNat o), .ref b])) rfl (by rw [hml]; rfl) c7 (argsL := [.ref b, .int (Int32.ofNat o), .int (Int32.ofNat len)]) (rest := []) rfl rfl (by show 2 * 0 + 0 ≤ _; decide) (hb hbytes d36) (⟨rfl, hA.mv X5.warmed.alike hh5, l1, l2, hp⟩)
  obtain ⟨e8, z8⟩ := E8
  obtain ⟨rfl, N, n1, n2, n3, n4, n5, n6⟩ := NewArr.mv _ T5 s _ _ hh5.symm (Vm.Alike.refl _) rfl e8
  rw [hh5] at z8
  have hB1 := hB.keep X8.warmed.alike (n6 _ _ hB.1)
  have hne : s.heap.size ≠ a := (Nat.ne_of_lt (Array.getElem?_eq_some_iff.mp hB.1).1).symm
  have c9 : Steps p.tables e below (s₁.setTop (entryFrame m #[.ref a, .ref b, .int (Int32.ofNat o), .int (Int32.ofNat len), .null] 6)) (T8.setTop (mkF m 39 #[.val (.ref a), .val (.ref b), .val (.int (Int32.ofNat o)), .val (.int (Int32.ofNat len)), .val .null, .unset] [.ref s.heap.size])) := g8
  have c10 : Steps p.tables e below (s₁.setTop (entryFrame m #[.ref a, .ref b, .int (Int32.ofNat o), .int (Int32.ofNat len), .null] 6)) (T8.setTop (mkF m 45 #[.val (.ref a), .val (.ref b), .val (.int (Int32.ofNat o)), .val (.int (Int32.ofNat len)), .val .null, .val (.ref s.heap.size)] [.int (Int32.ofNat N.slots.size), .ref s.heap.size, .ref a])) := by
    have hc : Steps p.tables e below (s₁.setTop (entryFrame m #[.ref a, .ref b, .int (Int32.ofNat o), .int (Int32.ofNat len), .null] 6)) (T8.setTop (mkF m 45 #[.val (.ref a), .val (.ref b), .val (.int (Int32.ofNat o)), .val (.int (Int32.ofNat len)), .val .null, .val (.ref s.heap.size)] [.int (Int32.ofNat len), .ref s.heap.size, .ref a])) := c9.trans (by
      refine XS.astore X8.here hexec rfl (hb hbytes d39) rfl rfl rfl ?_
      refine XS.aloadN X8.here hexec rfl (hb hbytes d41) rfl rfl ?_
      refine XS.aload X8.here hexec rfl (hb hbytes d42) rfl rfl ?_
      refine XS.iloadN X8.here hexec rfl (hb hbytes d44) rfl ?_
      exact Steps.refl _)
    rw [n4]; exact hc
  obtain ⟨v11, T11, X11, E11, g11⟩ := X8.callS hexec (CodL.law l s.heap.size N) hown (wks W (staticW "java/lang/String" 47 CodL.yN)) (wk W CodL.tab) (W := 1) (Nat.le_of_ble_eq_true rfl) (Nat.le_of_ble_eq_true rfl) (Nat.le_refl _) (by show 0 + len + 0 ≤ len; omega) (g := (mkF m 45 #[.val (.ref a), .val (.ref b), .val (.int (Int32.ofNat o)), .val (.int (Int32.ofNat len)), .val .null, .val (.ref s.heap.size)] [.int (Int32.ofNat N.slots.size), .ref s.heap.size, .ref a])) rfl (by rw [hml]; rfl) c10 (argsL := [.ref s.heap.size, .int (Int32.ofNat N.slots.size)]) (rest := [.ref a]) rfl rfl (by show 2 * 0 + (1 + 0) ≤ _; decide) (hb hbytes d45) (⟨rfl, n1⟩)
  obtain ⟨rfl, q11⟩ := E11
  have hB11 := hB1.mv (X8.warmed.alike.symm.trans X11.warmed.alike) q11
  have c12 : Steps p.tables e below (s₁.setTop (entryFrame m #[.ref a, .ref b, .int (Int32.ofNat o), .int (Int32.ofNat len), .null] 6)) (T11.setTop (mkF m 48 #[.val (.ref a), .val (.ref b), .val (.int (Int32.ofNat o)), .val (.int (Int32.ofNat len)), .val .null, .val (.ref s.heap.size)] [.int 0, .ref a])) := g11
  obtain ⟨T13, X13, p13, bl13, sl13, st13⟩ := X11.finit hexec hown (wk W (.fieldLink "java/lang/String" 15 "java/lang/String" "coder" "B")) (Or.inr ⟨_, (wk W (.laysFinal "java/lang/String" "java/lang/String" "coder" "B"))⟩) (Or.inl ⟨rfl, hnm⟩) f2 (Or.inl rfl) hB11 (t := .byte) (by decide +kernel) rfl (g := (mkF m 48 #[.val (.ref a), .val (.ref b), .val (.int (Int32.ofNat o)), .val (.int (Int32.ofNat len)), .val .null, .val (.ref s.heap.size)] [.int 0, .ref a])) rfl (rest := []) rfl (hb hbytes d48)
  have c14 : Steps p.tables e below (s₁.setTop (entryFrame m #[.ref a, .ref b, .int (Int32.ofNat o), .int (Int32.ofNat len), .null] 6)) (T13.setTop (mkF m 54 #[.val (.ref a), .val (.ref b), .val (.int (Int32.ofNat o)), .val (.int (Int32.ofNat len)), .val .null, .val (.ref s.heap.size)] [.ref s.heap.size, .ref a])) := (c12.trans (st13 _ (Steps.refl _))).trans (by
    refine XS.aloadN X13.here hexec rfl (hb hbytes d51) rfl rfl ?_
    refine XS.aload X13.here hexec rfl (hb hbytes d52) rfl rfl ?_
    exact Steps.refl _)
  obtain ⟨T15, X15, p15, bl15, sl15, st15⟩ := X13.finit hexec hown (wk W (.fieldLink "java/lang/String" 9 "java/lang/String" "value" "[B")) (Or.inr ⟨_, (wk W (.laysFinal "java/lang/String" "java/lang/String" "value" "[B"))⟩) (Or.inl ⟨rfl, hnm⟩) f1 (Or.inl rfl) bl13 (t := (.array .byte)) (by decide +kernel) rfl (g := (mkF m 54 #[.val (.ref a), .val (.ref b), .val (.int (Int32.ofNat o)), .val (.int (Int32.ofNat len)), .val .null, .val (.ref s.heap.size)] [.ref s.heap.size, .ref a])) rfl (rest := []) rfl (hb hbytes d54)
  have c16 : Steps p.tables e below (s₁.setTop (entryFrame m #[.ref a, .ref b, .int (Int32.ofNat o), .int (Int32.ofNat len), .null] 6)) (T15.setTop (mkF m 57 #[.val (.ref a), .val (.ref b), .val (.int (Int32.ofNat o)), .val (.int (Int32.ofNat len)), .val .null, .val (.ref s.heap.size)] [])) := c14.trans (st15 _ (Steps.refl _))
  have ap := apart (Or.inr ⟨_, (wk W (.laysFinal "java/lang/String" "java/lang/String" "value" "[B"))⟩) (Or.inr ⟨_, (wk W (.laysFinal "java/lang/String" "java/lang/String" "coder" "B"))⟩) f1 f2 (t₁ := .array .byte) (t₂ := .byte) (by decide +kernel) (by decide +kernel) (by decide)
  have al := X8.warmed.alike.symm.trans X15.warmed.alike
  have n7 : T11.heap[s.heap.size]? = some N := by rw [q11]; exact n1.1
  exact ⟨T15, none, _, _, _, X15, by simp, rfl, by omega, (fun _ => rfl), ⟨rfl, _, N, bl15, ((Same.refl D _).set _ (by simp)).set _ (by simp), sl15, (Cell.slots_setSlot_ne _ ap).trans sl13, n1.keep al (p15.other hne (p13.other hne n7)), n2, by rw [al.findClass]; exact n3, n4, n5, fun y c h1 h2 => p15.other h1 (p13.other h1 (by rw [q11]; exact n6 y c h2)), by rw [p15.2.2, p13.2.2, q11]; exact z8⟩, fun fs hl => c16.trans (X15.returnOut hexec hret (hb hbytes d57) hl)⟩
end New4
namespace New1
def yN : MethodName := ⟨"java/lang/String", "<init>", "([C)V"⟩
abbrev yB : ByteArray := jdk_42_method_3_code
theorem d0 : decode yB 0 = .ok (.aload_n 0, 1) := by decide +kernel
theorem d1 : decode yB 1 = .ok (.aload_n 1, 1) := by decide +kernel
theorem d2 : decode yB 2 = .ok (.iconst 0, 1) := by decide +kernel
theorem d3 : decode yB 3 = .ok (.aload_n 1, 1) := by decide +kernel
theorem d4 : decode yB 4 = .ok (.arraylength, 1) := by decide +kernel
theorem d5 : decode yB 5 = .ok (.aconst_null, 1) := by decide +kernel
theorem d6 : decode yB 6 = .ok (.invokespecial 27, 3) := by decide +kernel
theorem d9 : decode yB 9 = .ok (.return_, 1) := by decide +kernel
def site : List Cond := [New4.tab] ++ initW "java/lang/String" 27 New4.yN
def tab : Cond := tabOf yN yB 2 none site
def P (a : Addr) (D : Cell) (fV fC : Field) (b : Addr) (A : Cell) (z : Int32) (args : Array Value) (s : State) : Prop := args = #[.ref a, .ref b] ∧ Blank "java/lang/String" a D s ∧ Found "java/lang/String" "value" "[B" fV s ∧ Found "java/lang/String" "coder" "B" fC s ∧ Ch b A s ∧ StaticIs s "java/lang/String" "COMPACT_STRINGS" "Z" (.int z) ∧ ¬ z = 0 ∧ 0 < A.slots.size ∧ A.slots.size ≤ 536870912 ∧ ∀ i, i < A.slots.size → ¬ 255 < cv A i
def E (a : Addr) (D : Cell) (fV fC : Field) (A : Cell) (r : Option Value) (s u : State) : Prop := Got a D fV fC A 0 A.slots.size r s u
/-- new String(chars), not empty, no char above 255: a Latin-1 String of their low bytes -/
theorem law (l : Launch) (a : Addr) (D : Cell) (fV fC : Field) (b : Addr) (A : Cell) (z : Int32) : Law l yN 2 1 3 52 yB 2 none site (P a D fV fC b A z) (E a D fV fC A) [⟨a, fC.slot⟩, ⟨a, fV.slot⟩] 1 A.slots.size := by
  refine Law.of_walk (plainFor_of_name (by decide +kernel)) (by decide +kernel) (by decide +kernel) (by decide) (fun _ _ h => by rw [h.1]; rfl) (fun _ U U' hal hh h => ⟨h.1, h.2.1.mv hal hh, h.2.2.1.al hal, h.2.2.2.1.al hal, h.2.2.2.2.1.mv hal hh, h.2.2.2.2.2.1.there hal hh, h.2.2.2.2.2.2⟩) (fun r U U' V V' h1 hal h2 h => Got.mv r U U' V V' h1 hal h2 h) ?_
  intro p e s m args below meth c s₁ X0 hexec hbytes hml hret hlk hnm hown hh0 W hP
  obtain ⟨rfl, hB, f1, f2, hA, s1, hz, l0, l2, hp⟩ := hP
  have c1 : Steps p.tables e below (s₁.setTop (entryFrame m #[.ref a, .ref b] 2)) (s₁.setTop (mkF m 0 #[.val (.ref a), .val (.ref b)] [])) := entry rfl
  have c2 : Steps p.tables e below (s₁.setTop (entryFrame m #[.ref a, .ref b] 2)) (s₁.setTop (mkF m 6 #[.val (.ref a), .val (.ref b)] [.null, .int (Int32.ofNat A.slots.size), .int 0, .ref b, .ref a])) := c1.trans (by
    refine XS.aloadN X0.here hexec rfl (hb hbytes d0) rfl rfl ?_
    refine XS.aloadN X0.here hexec rfl (hb hbytes d1) rfl rfl ?_
    refine iconstV X0.here hexec rfl 0 (hb hbytes d2) (by decide) ?_
    refine XS.aloadN X0.here hexec rfl (hb hbytes d3) rfl rfl ?_
    refine X0.alen hexec (hA.1.mv X0.warmed.alike hh0) rfl rfl (hb hbytes d4) ?_
    refine XS.aconstNull X0.here hexec rfl (hb hbytes d5) ?_
    exact Steps.refl _)
  obtain ⟨v3, T3, X3, E3, g3⟩ := X0.callN hexec (New4.law l a D fV fC b A z 0 A.slots.size) rfl hown (wks W (initW "java/lang/String" 27 New4.yN)) (W New4.tab (by simp only [site, List.mem_cons, List.mem_append, true_or, or_true])) (W := 0) (Nat.le_of_ble_eq_true rfl) (Nat.le_of_ble_eq_true rfl) (Nat.le_refl _) (by show 0 + A.slots.size ≤ A.slots.size; omega) (g := (mkF m 6 #[.val (.ref a), .val (.ref b)] [.null, .int (Int32.ofNat A.slots.size), .int (Int32.ofNat 0), .ref b, .ref a])) rfl (by rw [hml]; rfl) c2 (argsL := [.ref b, .int (Int32.ofNat 0), .int (Int32.ofNat A.slots.size), .null]) (rest := []) rfl rfl (by show 2 * 0 + 0 ≤ _; decide) (hb hbytes d6) (⟨rfl, hB.mv X0.warmed.alike hh0, f1.al X0.warmed.alike, f2.al X0.warmed.alike, hA.mv X0.warmed.alike hh0, s1.there X0.warmed.alike hh0, hz, l0, by omega, l2, fun i hi => by rw [Nat.zero_add]; exact hp i hi⟩)
  have e0 := Got.mv _ s₁ s _ _ hh0.symm (Vm.Alike.refl _) rfl E3
  obtain rfl := e0.1
  have c4 : Steps p.tables e below (s₁.setTop (entryFrame m #[.ref a, .ref b] 2)) (T3.setTop (mkF m 9 #[.val (.ref a), .val (.ref b)] [])) := g3
  exact ⟨T3, none, _, _, _, X3, by simp, rfl, by omega, (fun _ => rfl), e0, fun fs hl => c4.trans (X3.returnOut hexec hret (hb hbytes d9) hl)⟩
theorem pays {l : Launch} {R : Room} {p : Program} {e : Env} {below : List Frame} {s : State} {sargs : Array Value} {len W : Nat} (a : Addr) (D : Cell) (fV fC : Field) (b : Addr) (A : Cell) (z : Int32) (htab : tab.before sargs s = true) (hfr : 4 ≤ R.frames) (hlo : W + 65 ≤ R.locals) :
    Back l R p e below s sargs yN len W (fun A₁ a₁ => A₁.cells + 1 ≤ R.cells ∧ A₁.slots + A.slots.size ≤ R.slots ∧ P a D fV fC b A z a₁ A₁.U) (fun A₁ _ v₁ B₁ => E a D fV fC A v₁ A₁.U B₁.U ∧ B₁.locs = A₁.locs ++ [⟨a, fC.slot⟩, ⟨a, fV.slot⟩] ∧ B₁.cells = A₁.cells + 1 ∧ B₁.slots = A₁.slots + A.slots.size) :=
  (law l a D fV fC b A z).pays htab hfr (by omega)
end New1
end StrChars
namespace StrChars.Road
open Jvm Sem ClassFile Op Lib Jvm.Stand Jvm.Free Jvm.Free.XT
open Jvm.Lib.Cold (StaticIs)
abbrev ST : String := "java/lang/String"
/-- every table word that New1's law asks, flat -/
abbrev words : List Jvm.Cond := [.code New1.yN New1.yB 2 none, .initialized ST, .methodLink ST 27 New4.yN, .instanceMethod New4.yN,
  .code New4.yN New4.yB 6 none, .fieldLink ST 38 ST "COMPACT_STRINGS" "Z", .laysFinal ST ST "value" "[B", .fieldLink ST 9 ST "value" "[B", .laysFinal ST ST "coder" "B", .fieldLink ST 15 ST "coder" "B",
  .methodLink ST 1 Lib.objectInit, .instanceMethod Lib.objectInit, .code Lib.objectInit ⟨#[0xb1]⟩ 1 none, .methodLink ST 177 Cmp3.yN, .static Cmp3.yN, .methodLink ST 47 CodL.yN, .static CodL.yN,
  .code Cmp3.yN Cmp3.yB 6 (some (.array .byte)), .initialized U16, .arrayClass .byte, .methodLink U16 115 Cmp5.yN, .static Cmp5.yN, .code Cmp5.yN Cmp5.yB 7 (some .int), .code CodL.yN CodL.yB 2 (some .byte)]
theorem tab_of {a : Array Value} {s : State} (h : ∀ w ∈ words, w.before a s = true) : New1.tab.before a s = true := by
  have h5 : Cmp5.tab.before a s = true := unparts (wk h (.code Cmp5.yN Cmp5.yB 7 (some .int))) (wks h (.initialized Cmp5.yN.cls :: Cmp5.site))
  have hc : CodL.tab.before a s = true := unparts (wk h (.code CodL.yN CodL.yB 2 (some .byte))) (wks h (.initialized CodL.yN.cls :: CodL.site))
  have q5 : ∀ w ∈ Cmp5.tab :: words, w.before a s = true := fun w hw => (List.mem_cons.mp hw).elim (fun e => e ▸ h5) (h w)
  have h3 : Cmp3.tab.before a s = true := unparts (wk q5 (.code Cmp3.yN Cmp3.yB 6 (some (.array .byte)))) (wks q5 (.initialized Cmp3.yN.cls :: Cmp3.site))
  have q3 : ∀ w ∈ Cmp3.tab :: CodL.tab :: words, w.before a s = true := fun w hw => (List.mem_cons.mp hw).elim (fun e => e ▸ h3) fun hw => (List.mem_cons.mp hw).elim (fun e => e ▸ hc) (h w)
  have h4 : New4.tab.before a s = true := unparts (wk q3 (.code New4.yN New4.yB 6 none)) (wks q3 (.initialized New4.yN.cls :: New4.site))
  have q4 : ∀ w ∈ New4.tab :: words, w.before a s = true := fun w hw => (List.mem_cons.mp hw).elim (fun e => e ▸ h4) (h w)
  exact unparts (wk q4 (.code New1.yN New1.yB 2 none)) (wks q4 (.initialized New1.yN.cls :: New1.site))
/-- the words ride from the start Z to the walk's own state -/
theorem moved {Z s : State} {a0 args : Array Value} (hZ : Z.Warmed39 s.vm) (hw : ∀ d ∈ words, d.before a0 Z = true) : ∀ d ∈ words, d.before args s = true := fun d hd => by
  have q := hw d hd
  have t : ∀ d ∈ words, d = .arrayClass .byte ∨ (d.onTables && d.keepsFace) = true := by decide +kernel
  rcases t d hd with rfl | t
  · exact RoadKit.mvA hZ q
  · exact RoadKit.mv hZ q t
/-- WHAT COMES BACK, over the tables of the start Z: h the heap at the call, h' behind it -/
def Q (Z : State) (x : Addr) (A : Cell) (h : Heap) (v : Option Value) (h' : Heap) (L : List Loc) : Prop := v = none ∧ (∀ y ∈ L, y.base = x) ∧ RoadKit.Keep h h' [x] ∧ h'.size = h.size + 1 ∧ RoadKit.Exa Z h' x ST ∧ RoadKit.Fld Z h' x ST "value" "[B" (.ref h.size) ∧ RoadKit.Fld Z h' x ST "coder" "B" (.int 0) ∧
  (∃ V : Cell, RoadKit.Arr Z h' h.size V .byte ∧ V.vm = .none ∧ Z.vm.findClass "[B" = some V.cls ∧ V.slots.size = A.slots.size ∧ ∀ j, j < A.slots.size → V.slots[j]? = some (.int (lo8 (cv A j)))) ∧
  ∀ (O n d : String) (w : Value), RoadKit.Fld Z h x O n d w → RoadKit.slotOf Z O n d ≠ RoadKit.slotOf Z ST "value" "[B" → RoadKit.slotOf Z O n d ≠ RoadKit.slotOf Z ST "coder" "B" → RoadKit.Fld Z h' x O n d w
/-- **new String(chars) AT A CALL, IN THE ROAD'S FORM**: for specialBack behind newO: x the fresh String, b the char[] with the cell A -/
theorem back {p : Program} {l : Launch} {e : Env} {R : Room} {s : State} {args : Array Value} {below : List Frame} {len W : Nat} {Z : State} {a0 : Array Value} {h : Heap} (hZ : Z.Warmed39 s.vm) (hw : ∀ d ∈ words, d.before a0 Z = true) {kI : Nat} (wi : (Jvm.Cond.instantiable ST kI).before a0 Z = true)
    {x b : Addr} {A : Cell} {z : Int32} {v0 c0 : Value} (E : RoadKit.Exa Z h x ST) (V : RoadKit.Fld Z h x ST "value" "[B" v0) (C : RoadKit.Fld Z h x ST "coder" "B" c0) (K : RoadKit.Arr Z h b A .char) (hty : Typed .char A) (S : RoadKit.Sta Z h ST "COMPACT_STRINGS" "Z" (.int z)) (hz : ¬ z = 0)
    (l0 : 0 < A.slots.size) (l2 : A.slots.size ≤ 536870912) (hp : ∀ i, i < A.slots.size → ¬ 255 < cv A i) (hfr : 4 ≤ R.frames) (hlo : W + 65 ≤ R.locals) :
    Back l R p e below s args New1.yN len W (fun P a => a = #[.ref x, .ref b] ∧ P.U.heap = h ∧ P.cells + 1 ≤ R.cells ∧ P.slots + A.slots.size ≤ R.slots)
      (fun P _ v B => ∃ L, Q Z x A h v B.U.heap L ∧ B.locs = P.locs ++ L ∧ B.cells = P.cells + 1 ∧ B.slots = P.slots + A.slots.size) := by
  intro m meth c P g ig mk a X hg hsize hdg hW hn hp'
  obtain ⟨rfl, rfl, r1, r2⟩ := hp'
  have al : Z.vm.Alike P.U.vm := hZ.alike.trans X.warmed.alike
  obtain ⟨D, cfV, kV, iV, fV, hD, gV, stV, knV, obV, asV, slV⟩ := id V
  obtain ⟨D', cfC, kC, iC, fC, hD', gC, stC, -, -, asC, slC⟩ := id C
  cases hD.symm.trans hD'
  obtain ⟨D2, kD, e1, e2, e3, e4, e5⟩ := id E
  cases hD.symm.trans e1
  obtain ⟨c2, k2, i1, i2, i3, -⟩ := Cond.instantiable_spec wi
  cases e2.symm.trans i1
  cases e3.symm.trans i2
  obtain ⟨kU, u1, u2⟩ := al.2.2 _ _ e3
  have hB : Blank ST x D P.U := ⟨hD, ⟨knV, fun q hq => by rw [hq] at obV; cases obV⟩, by rw [al.findClass]; exact e2, kU, u1, by rw [u2]; exact i3, by rw [u2]; exact e5 i3⟩
  have F1 : Found ST "value" "[B" fV P.U := ⟨SBG.found_only al ⟨cfV, kV, iV, gV⟩, stV⟩
  have F2 : Found ST "coder" "B" fC P.U := ⟨SBG.found_only al ⟨cfC, kC, iC, gC⟩, stC⟩
  have hA : Ch b A P.U := ⟨⟨K.1, State.isArrayOf_alike al K.2.1, K.2.2, by omega⟩, hty⟩
  have hS : StaticIs P.U ST "COMPACT_STRINGS" "Z" (.int z) := by
    obtain ⟨cfS, iS, kS, fS, st, cS, t1, t2, t3, t4, t5, t6, t7⟩ := S
    exact StaticIs.there (s := { Z with heap := P.U.heap }) ⟨cfS, iS, kS, fS, st, cS, t1, t2, t3, t4, t5, (fun q => by rw [q] at t6; cases t6), t7⟩ al rfl
  obtain ⟨v, B, X', ⟨⟨hv, E', V', q1, q2, q3, q4, q5, q6, q7, q8, q9, q10, q11⟩, hl, hc, hs⟩, st⟩ := New1.pays x D fV fC b A z (tab_of (moved hZ hw)) hfr hlo m meth c P g ig mk _ X hg hsize hdg hW hn ⟨r1, r2, rfl, hB, F1, F2, hA, hS, hz, l0, l2, hp⟩
  have al' : Z.vm.Alike B.U.vm := hZ.alike.trans X'.warmed.alike
  have hsz : E'.slots.size = D.slots.size := by
    obtain ⟨-, -, -, kB, w1, w2, w3⟩ := q1
    obtain ⟨kB', y1, y2⟩ := al'.2.2 _ _ e3
    rw [q2.2.1] at w1
    cases w1.symm.trans y1
    rw [w3, e5 i3, y2]
  refine ⟨v, B, X', ⟨_, ⟨hv, ?_, ⟨by omega, fun y cy hy hn' => q10 y cy (by simpa using hn') hy, fun y cy hy => ?_⟩, q11, ⟨E', _, q1.1, by rw [q2.2.1]; exact e2, by rw [q2.2.1]; exact e3, by rw [q2.1]; exact obV, fun _ => by rw [hsz]; exact e5 i3⟩,
    ⟨E', cfV, kV, iV, fV, q1.1, gV, stV, by rw [q2.1]; exact knV, by rw [q2.1]; exact obV, by rw [q2.2.1]; exact asV, q3⟩, ⟨E', cfC, kC, iC, fC, q1.1, gC, stC, by rw [q2.1]; exact knV, by rw [q2.1]; exact obV, by rw [q2.2.1]; exact asC, q4⟩,
    ⟨V', ⟨q5.1, State.isArrayOf_alike al'.symm q5.2.1, q5.2.2.1⟩, q6, by rw [← al'.findClass]; exact q7, q8, fun j hj => by have := q9 j hj; rwa [Nat.zero_add] at this⟩, fun O n d w F n1 n2 => ?_⟩, hl, hc, hs⟩, st⟩
  · intro y hy
    simp only [List.mem_cons, List.not_mem_nil, or_false] at hy
    rcases hy with rfl | rfl <;> rfl
  · by_cases q : y = x
    · subst q
      cases hD.symm.trans hy
      exact ⟨E', q1.1, q2.2.1, q2.1, hsz⟩
    · exact ⟨cy, q10 y cy q hy, rfl, rfl, rfl⟩
  · obtain ⟨D3, cf, k, i, f, g1, g2, g3, g4, g5, g6, g7⟩ := F
    cases hD.symm.trans g1
    simp only [RoadKit.slotOf, g2, gV, gC, Option.map_some, Option.getD_some] at n1 n2
    exact ⟨E', cf, k, i, f, q1.1, g2, g3, by rw [q2.1]; exact g4, by rw [q2.1]; exact g5, by rw [q2.2.1]; exact g6, by rw [q2.2.2 f.slot (by simp [n1, n2])]; exact g7⟩
end StrChars.Road
namespace StrChars.Road
open Jvm Sem ClassFile Op Lib Jvm.Stand Jvm.Free Jvm.Free.XT
/-- WHAT COMES BACK, the byte[] as a list of values -/
def QA (Z : State) (x : Addr) (zn : Int32) (cs : List Int32) (h : Heap) (v : Option Value) (h' : Heap) (L : List Loc) : Prop := v = none ∧ (∀ y ∈ L, y.base = x) ∧ RoadKit.Keep h h' [x] ∧ h'.size = h.size + 1 ∧ RoadKit.Exa Z h' x ST ∧ RoadKit.Fld Z h' x ST "value" "[B" (.ref h.size) ∧ RoadKit.Fld Z h' x ST "coder" "B" (.int 0) ∧
  (∃ kb, Z.vm.findClass "[B" = some kb ∧ RoadKit.Arv Z h' h.size kb .byte zn (cs.map fun c => .int (lo8 c)) (.int 0)) ∧
  ∀ (O n d : String) (w : Value), RoadKit.Fld Z h x O n d w → RoadKit.slotOf Z O n d ≠ RoadKit.slotOf Z ST "value" "[B" → RoadKit.slotOf Z O n d ≠ RoadKit.slotOf Z ST "coder" "B" → RoadKit.Fld Z h' x O n d w
/-- **new String(chars) AT A CALL, THE ARRAYS AS LISTS**: the char[] at b holds cs, not empty, no char above 255 -/
theorem backArv {p : Program} {l : Launch} {e : Env} {R : Room} {s : State} {args : Array Value} {below : List Frame} {len W : Nat} {Z : State} {a0 : Array Value} {h : Heap} (hZ : Z.Warmed39 s.vm) (hw : ∀ d ∈ words, d.before a0 Z = true) {kI : Nat} (wi : (Jvm.Cond.instantiable ST kI).before a0 Z = true)
    {x b : Addr} {k : ClassId} {zn z : Int32} {cs : List Int32} {dv v0 c0 : Value} (E : RoadKit.Exa Z h x ST) (V : RoadKit.Fld Z h x ST "value" "[B" v0) (C : RoadKit.Fld Z h x ST "coder" "B" c0) (K : RoadKit.Arv Z h b k .char zn (cs.map Value.int) dv) (S : RoadKit.Sta Z h ST "COMPACT_STRINGS" "Z" (.int z)) (hz : ¬ z = 0)
    (hlen : zn.toNatClampNeg = cs.length) (h0 : 0 < cs.length) (hbig : cs.length ≤ 536870912) (hall : ∀ c ∈ cs, ¬ 255 < c) (hfr : 4 ≤ R.frames) (hlo : W + 65 ≤ R.locals) :
    Back l R p e below s args New1.yN len W (fun P a => a = #[.ref x, .ref b] ∧ P.U.heap = h ∧ P.cells + 1 ≤ R.cells ∧ P.slots + cs.length ≤ R.slots)
      (fun P _ v B => ∃ L, QA Z x zn cs h v B.U.heap L ∧ B.locs = P.locs ++ L ∧ B.cells = P.cells + 1 ∧ B.slots = P.slots + cs.length) := by
  obtain ⟨A, K1, K2, K3, K4, K5, K6⟩ := K
  have e : A.slots.size = cs.length := K3.trans hlen
  have hat : ∀ (i : Nat) (hi : i < cs.length), A.slots[i]? = some (.int cs[i]) := fun i hi => by rw [K5 i (by omega)]; simp [List.getD_eq_getElem?_getD, hi]
  have hcv : ∀ (i : Nat) (hi : i < cs.length), cv A i = cs[i] := fun i hi => by unfold cv; rw [hat i hi]
  have hty : Typed .char A := fun i v hv => by
    have hi : i < A.slots.size := (Array.getElem?_eq_some_iff.mp hv).1
    have q := K5 i hi
    rw [hv] at q
    rw [Option.some.inj q]
    exact K6 i hi
  refine Back.mono (back hZ hw wi E V C K1 hty S hz (by omega) (by omega) (fun i hi => by rw [hcv i (by omega)]; exact hall _ (List.getElem_mem _)) hfr hlo) (fun P a hp => ⟨hp.1, hp.2.1, hp.2.2.1, by rw [e]; exact hp.2.2.2⟩) (fun P a v B hp hq => ?_)
  obtain ⟨L, ⟨q1, q2, q3, q4, q5, q6, q7, ⟨V', v1, v2, v3, v4, v5⟩, q9⟩, hl, hc, hs⟩ := hq
  refine ⟨L, ⟨q1, q2, q3, q4, q5, q6, q7, ⟨V'.cls, v3, V', v1, rfl, by rw [v4, e, hlen], K4, fun i hi => ?_, fun i hi => ?_⟩, q9⟩, hl, hc, by rw [hs, e]⟩
  · have hi' : i < cs.length := by omega
    rw [v5 i (by omega), hcv i hi']; simp [List.getD_eq_getElem?_getD, hi']
  · have hi' : i < cs.length := by omega
    simp only [List.getD_eq_getElem?_getD, List.getElem?_map, List.getElem?_eq_getElem hi', Option.map_some, Option.getD_some]
    exact fits_lo8 _
end StrChars.Road
namespace StrChars.Road
open Jvm Sem ClassFile Op Lib Jvm.Stand Jvm.Free Jvm.Free.XT
/-- WHAT COMES BACK, in the writer's own shape -/
def QV (Z : State) (x : Addr) (N : Int32) (bs : List Int32) (h : Heap) (n0 : Nat) (v : Option Value) (h' : Heap) (L : List Loc) : Prop := v = none ∧ RoadKit.Fr n0 L ∧ RoadKit.Keep h h' [x] ∧ RoadKit.Exa Z h' x ST ∧ RoadKit.Fld Z h' x ST "coder" "B" (.int 0) ∧
  ∃ (t : Addr) (kb : ClassId), n0 ≤ t ∧ h.size ≤ t ∧ ¬ t = x ∧ RoadKit.Fld Z h' x ST "value" "[B" (.ref t) ∧ RoadKit.Arv Z h' t kb .byte N (bs.map Value.int) (.int 0)
/-- **new String(chars) AT A CALL, FOR THE WRITER**: a char[] of n known ints, each 0 to 255 -/
theorem backV {p : Program} {l : Launch} {e : Env} {R : Room} {s : State} {args : Array Value} {below : List Frame} {len W : Nat} {Z : State} {a0 : Array Value} {h : Heap} (hZ : Z.Warmed39 s.vm) (hw : ∀ d ∈ words, d.before a0 Z = true) {kI : Nat} (wi : (Jvm.Cond.instantiable ST kI).before a0 Z = true)
    {x b : Addr} {kC : ClassId} {cs bs : List Int32} {d v0 c0 : Value} {z N : Int32} {n n0 : Nat} (hx0 : n0 ≤ x) (hh0 : n0 ≤ h.size) (E : RoadKit.Exa Z h x ST) (V : RoadKit.Fld Z h x ST "value" "[B" v0) (C : RoadKit.Fld Z h x ST "coder" "B" c0) (K : RoadKit.Arv Z h b kC .char N (cs.map Value.int) d) (S : RoadKit.Sta Z h ST "COMPACT_STRINGS" "Z" (.int z)) (hz : ¬ z = 0)
    (hn : cs.length = n) (hN : N = Int32.ofNat n) (l0 : 0 < n) (l2 : n ≤ 4000) (hp : ∀ c ∈ cs, ¬ c < 0 ∧ ¬ (255 : Int32) < c) (hb : bs = cs.map (fun c => c.toInt8.toInt32)) (hfr : 4 ≤ R.frames) (hlo : W + 65 ≤ R.locals) :
    Back l R p e below s args (⟨"java/lang/String", "<init>", "([C)V"⟩ : MethodName) len W (fun P a => a = #[.ref x, .ref b] ∧ P.U.heap = h ∧ P.cells + 1 ≤ R.cells ∧ P.slots + n ≤ R.slots)
      (fun P _ v B => ∃ L, QV Z x N bs h n0 v B.U.heap L ∧ B.locs = P.locs ++ L ∧ B.cells = P.cells + 1 ∧ B.slots = P.slots + n) := by
  subst hn hN hb
  refine Back.mono (backArv hZ hw wi E V C K S hz (n32 (by omega)) l0 (by omega) (fun c hc => (hp c hc).2) hfr hlo) (fun P a hp => hp) (fun P a v B hp hq => ?_)
  obtain ⟨L, ⟨q1, q2, q3, q4, q5, q6, q7, ⟨kb, v1, v2⟩, q9⟩, hl, hc, hs⟩ := hq
  exact ⟨L, ⟨q1, fun y hy => by rw [q2 y hy]; exact hx0, q3, q5, q7, h.size, kb, hh0, Nat.le_refl _, Nat.ne_of_gt E.lt, q6, by rw [List.map_map]; exact v2⟩, hl, hc, hs⟩
end StrChars.Road
namespace StrChars
open Jvm Sem ClassFile Op Lib Jvm.Stand Jvm.Free.XT Jvm.Free.ALB Jvm.Free.JM Jvm.Free
open Jvm.Lib.Cold (StaticIs)
def hi8 (x : Int32) : Int32 := lo8 (x >>> ((8 : Int32) &&& 31))
theorem shr0 (c : Int32) : c >>> ((0 : Int32) &&& 31) = c := by
  have e : ((0 : Int32) &&& 31) = 0 := by decide
  rw [e]
  apply Int32.toBitVec_inj.mp
  rw [Int32.toBitVec_shiftRight]
  have e1 : ((0 : Int32).toBitVec.smod 32) = 0#32 := by decide
  rw [e1, BitVec.sshiftRight_eq']
  exact BitVec.sshiftRight_zero
end StrChars
namespace StrChars
open Jvm Sem ClassFile Op Lib Jvm.Stand Jvm.Free.XT Jvm.Free.ALB Jvm.Free.JM Jvm.Free
open Jvm.Lib.Cold (StaticIs)
theorem shr1 {n : Nat} (h : 2 * n < 2 ^ 31) : Int32.ofNat (2 * n) >>> ((1 : Int32) &&& 31) = Int32.ofNat n := by
  have e : ((1 : Int32) &&& 31) = 1 := by decide
  rw [e]
  apply Int32.toBitVec_inj.mp
  rw [Int32.toBitVec_shiftRight]
  have e1 : ((1 : Int32).toBitVec.smod 32) = 1#32 := by decide
  have hm : (BitVec.ofNat 32 (2 * n)).toNat = 2 * n := by rw [BitVec.toNat_ofNat, Nat.mod_eq_of_lt (by omega)]
  rw [e1, BitVec.sshiftRight_eq']
  apply BitVec.eq_of_toNat_eq
  show ((BitVec.ofNat 32 (2 * n)).sshiftRight 1).toNat = (BitVec.ofNat 32 n).toNat
  rw [BitVec.toNat_sshiftRight_of_msb_false (by rw [BitVec.msb_eq_false_iff_two_mul_lt, hm]; omega), hm, BitVec.toNat_ofNat, Nat.shiftRight_eq_div_pow]
  omega
/-- the array's cell V codes the n chars f 0 .. f (n - 1) by the coder cd, as the JDK does: coder 1 just where some char is above 255 -/
def Cod (cd : Int32) (n : Nat) (f : Nat → Int32) (V : Cell) : Prop := (cd = 0 ∧ V.slots.size = n ∧ ∀ j, j < n → V.slots[j]? = some (.int (lo8 (f j))) ∧ ¬ 255 < f j) ∨ (cd = 1 ∧ V.slots.size = 2 * n ∧ (∀ j, j < n → V.slots[2 * j]? = some (.int (lo8 (f j))) ∧ V.slots[2 * j + 1]? = some (.int (hi8 (f j)))) ∧ ∃ j, j < n ∧ 255 < f j)
theorem Cod.cd {cd : Int32} {n : Nat} {f : Nat → Int32} {V : Cell} (h : Cod cd n f V) : cd = 0 ∨ cd = 1 := h.imp (fun q => q.1) fun q => q.1
theorem Cod.len {cd : Int32} {n : Nat} {f : Nat → Int32} {V : Cell} (h : Cod cd n f V) (hs : V.slots.size < 2 ^ 31) : Int32.ofNat V.slots.size >>> (cd &&& 31) = Int32.ofNat n := by
  rcases h with ⟨rfl, h, -⟩ | ⟨rfl, h, -⟩
  · rw [shr0, h]
  · rw [h, shr1 (by omega)]
/-- **x is a String of the n chars f 0 .. f (n - 1)**, Latin-1 or UTF-16; its array at t has the cell V -/
def Txt (x t : Addr) (V : Cell) (cd : Int32) (n : Nat) (f : Nat → Int32) (U : State) : Prop := Exact "java/lang/String" x U ∧ Has x "java/lang/String" "value" "[B" (.ref t) U ∧ Has x "java/lang/String" "coder" "B" (.int cd) U ∧ XT.Arr .byte t V U ∧ Cod cd n f V ∧ ∀ j, j < n → ¬ f j < 0 ∧ ¬ 65535 < f j
theorem Txt.mv {x t : Addr} {V : Cell} {cd : Int32} {n : Nat} {f : Nat → Int32} {U U' : State} (h : Txt x t V cd n f U) (hal : U.vm.Alike U'.vm) (hh : U'.heap = U.heap) : Txt x t V cd n f U' := ⟨h.1.mv hal hh, h.2.1.mv hal hh, h.2.2.1.mv hal hh, h.2.2.2.1.mv hal hh, h.2.2.2.2⟩
namespace Cdr
def yN : MethodName := ⟨"java/lang/String", "coder", "()B"⟩
abbrev yB : ByteArray := jdk_42_method_152_code
theorem d0 : decode yB 0 = .ok (.getstatic 38, 3) := by decide +kernel
theorem d3 : decode yB 3 = .ok (.ifCond (.eq) 10, 3) := by decide +kernel
theorem d6 : decode yB 6 = .ok (.aload_n 0, 1) := by decide +kernel
theorem d7 : decode yB 7 = .ok (.getfield 15, 3) := by decide +kernel
theorem d10 : decode yB 10 = .ok (.goto 4, 3) := by decide +kernel
theorem d14 : decode yB 14 = .ok (.ireturn, 1) := by decide +kernel
def site : List Cond := [.fieldLink "java/lang/String" 38 "java/lang/String" "COMPACT_STRINGS" "Z", .fieldLink "java/lang/String" 15 "java/lang/String" "coder" "B"]
def tab : Cond := tabOf yN yB 1 (some .byte) site
def P (x : Addr) (cd z : Int32) (args : Array Value) (s : State) : Prop := args = #[.ref x] ∧ Has x "java/lang/String" "coder" "B" (.int cd) s ∧ (cd = 0 ∨ cd = 1) ∧ StaticIs s "java/lang/String" "COMPACT_STRINGS" "Z" (.int z) ∧ ¬ z = 0
def E (cd : Int32) (r : Option Value) (s u : State) : Prop := XT.PureE (some (.int cd)) r s u
theorem law (l : Launch) (x : Addr) (cd z : Int32) : Law l yN 1 0 0 0 yB 1 (some .byte) site (P x cd z) (E cd) [] 0 0 := by
  refine Law.of_walk (plainFor_of_name (by decide +kernel)) (by decide +kernel) (by decide +kernel) (by decide) (fun _ _ h => by rw [h.1]; rfl) (fun _ U U' hal hh h => ⟨h.1, h.2.1.mv hal hh, h.2.2.1, h.2.2.2.1.there hal hh, h.2.2.2.2⟩) (fun r U U' V V' h1 hal h2 h => XT.PureE.mv r U U' V V' h1 hal h2 h) ?_
  intro p e s m args below meth c s₁ X0 hexec hbytes hml hret hlk hnm hown hh0 W hP
  obtain ⟨rfl, hx, hc, s1, hz⟩ := hP
  have c1 : Steps p.tables e below (s₁.setTop (entryFrame m #[.ref x] 1)) (s₁.setTop (mkF m 0 #[.val (.ref x)] [])) := entry rfl
  obtain ⟨T2, X2, q2, st2⟩ := X0.sget hexec hown (wk W (.fieldLink "java/lang/String" 38 "java/lang/String" "COMPACT_STRINGS" "Z")) s1 (fun _ _ h => by rw [hh0]; exact h) (g := (mkF m 0 #[.val (.ref x)] [])) rfl (hb hbytes d0)
  have hh2 := q2.trans hh0
  have c3 : Steps p.tables e below (s₁.setTop (entryFrame m #[.ref x] 1)) (T2.setTop (mkF m 7 #[.val (.ref x)] [.ref x])) := (c1.trans (st2 _ (Steps.refl _))).trans (by
    refine XS.ifNo X2.here hexec rfl (hb hbytes d3) rfl (i0_eq_f hz) ?_
    refine XS.aloadN X2.here hexec rfl (hb hbytes d6) rfl rfl ?_
    exact Steps.refl _)
  obtain ⟨T4, X4, q4, st4⟩ := X2.hget hexec hown (wk W (.fieldLink "java/lang/String" 15 "java/lang/String" "coder" "B")) (hx.mv X2.warmed.alike hh2) (g := (mkF m 7 #[.val (.ref x)] [.ref x])) rfl (rest := []) rfl (hb hbytes d7)
  have c5 : Steps p.tables e below (s₁.setTop (entryFrame m #[.ref x] 1)) (T4.setTop (mkF m 14 #[.val (.ref x)] [.int cd])) := (c3.trans (st4 _ (Steps.refl _))).trans (by
    refine XS.goto X4.here hexec rfl (pc0 := 10) rfl (hb hbytes d10) (by decide) rfl ?_
    exact Steps.refl _)
  exact ⟨T4, some (.int cd), _, _, _, X4, rfl, rfl, rfl, (fun h => by cases h), ⟨rfl, q4.trans hh2⟩, fun fs hl => c5.trans (X4.ireturnOut hexec hret (by rcases hc with rfl | rfl <;> rfl) (Or.inr (Or.inr (Or.inl rfl))) (hb hbytes d14) hl)⟩
end Cdr
namespace Len
def yN : MethodName := ⟨"java/lang/String", "length", "()I"⟩
abbrev yB : ByteArray := jdk_42_method_54_code
theorem d0 : decode yB 0 = .ok (.aload_n 0, 1) := by decide +kernel
theorem d1 : decode yB 1 = .ok (.getfield 9, 3) := by decide +kernel
theorem d4 : decode yB 4 = .ok (.arraylength, 1) := by decide +kernel
theorem d5 : decode yB 5 = .ok (.aload_n 0, 1) := by decide +kernel
theorem d6 : decode yB 6 = .ok (.invokevirtual 335, 3) := by decide +kernel
theorem d9 : decode yB 9 = .ok (.ishr, 1) := by decide +kernel
theorem d10 : decode yB 10 = .ok (.ireturn, 1) := by decide +kernel
def site : List Cond := [.fieldLink "java/lang/String" 9 "java/lang/String" "value" "[B", Cdr.tab] ++ virtW "java/lang/String" 335 "java/lang/String" Cdr.yN Cdr.yN
def tab : Cond := tabOf yN yB 1 (some .int) site
def P (x t : Addr) (V : Cell) (cd : Int32) (n : Nat) (f : Nat → Int32) (z : Int32) (args : Array Value) (s : State) : Prop := args = #[.ref x] ∧ Txt x t V cd n f s ∧ StaticIs s "java/lang/String" "COMPACT_STRINGS" "Z" (.int z) ∧ ¬ z = 0
def E (n : Nat) (r : Option Value) (s u : State) : Prop := XT.PureE (some (.int (Int32.ofNat n))) r s u
/-- length() of a String of n chars, in either coding -/
theorem law (l : Launch) (x t : Addr) (V : Cell) (cd : Int32) (n : Nat) (f : Nat → Int32) (z : Int32) : Law l yN 1 0 1 13 yB 1 (some .int) site (P x t V cd n f z) (E n) [] 0 0 := by
  refine Law.of_walk (plainFor_of_name (by decide +kernel)) (by decide +kernel) (by decide +kernel) (by decide) (fun _ _ h => by rw [h.1]; rfl) (fun _ U U' hal hh h => ⟨h.1, h.2.1.mv hal hh, h.2.2.1.there hal hh, h.2.2.2⟩) (fun r U U' V V' h1 hal h2 h => XT.PureE.mv r U U' V V' h1 hal h2 h) ?_
  intro p e s m args below meth c s₁ X0 hexec hbytes hml hret hlk hnm hown hh0 W hP
  obtain ⟨rfl, hx, s1, hz⟩ := hP
  have v31 := hx.2.2.2.1.2.2.2
  have c1 : Steps p.tables e below (s₁.setTop (entryFrame m #[.ref x] 1)) (s₁.setTop (mkF m 1 #[.val (.ref x)] [.ref x])) := Steps.trans (entry rfl) (by
    show Steps p.tables e below (s₁.setTop (mkF m 0 #[.val (.ref x)] [])) _
    refine XS.aloadN X0.here hexec rfl (hb hbytes d0) rfl rfl ?_
    exact Steps.refl _)
  obtain ⟨T2, X2, q2, st2⟩ := X0.hget hexec hown (wk W (.fieldLink "java/lang/String" 9 "java/lang/String" "value" "[B")) (hx.mv X0.warmed.alike hh0).2.1 (g := (mkF m 1 #[.val (.ref x)] [.ref x])) rfl (rest := []) rfl (hb hbytes d1)
  have hh2 := q2.trans hh0
  have hx2 := hx.mv X2.warmed.alike hh2
  have c3 : Steps p.tables e below (s₁.setTop (entryFrame m #[.ref x] 1)) (T2.setTop (mkF m 6 #[.val (.ref x)] [.ref x, .int (Int32.ofNat V.slots.size)])) := (c1.trans (st2 _ (Steps.refl _))).trans (by
    refine X2.alen hexec hx2.2.2.2.1 rfl rfl (hb hbytes d4) ?_
    refine XS.aloadN X2.here hexec rfl (hb hbytes d5) rfl rfl ?_
    exact Steps.refl _)
  obtain ⟨v4, T4, X4, E4, g4⟩ := X2.callV hexec (Cdr.law l x cd z) hown (wks W (virtW "java/lang/String" 335 "java/lang/String" Cdr.yN Cdr.yN)) rfl (by decide) (wk W Cdr.tab) (W := 1) (Nat.le_of_ble_eq_true rfl) (Nat.le_of_ble_eq_true rfl) (Nat.le_refl _) (Nat.le_refl _) (hx2.1.fc X2.warmed.alike) hx2.1.is (g := (mkF m 6 #[.val (.ref x)] [.ref x, .int (Int32.ofNat V.slots.size)])) rfl (by rw [hml]; rfl) c3 (argsL := []) (rest := [.int (Int32.ofNat V.slots.size)]) rfl rfl (by show 2 * 0 + (1 + 0) ≤ _; decide) (hb hbytes d6) (⟨rfl, hx2.2.2.1, hx.2.2.2.2.1.cd, s1.there X2.warmed.alike hh2, hz⟩)
  obtain ⟨rfl, q4⟩ := E4
  have c5 : Steps p.tables e below (s₁.setTop (entryFrame m #[.ref x] 1)) (T4.setTop (mkF m 10 #[.val (.ref x)] [.int (Int32.ofNat V.slots.size >>> (cd &&& 31))])) := Steps.trans g4 (by
    refine ishr X4.here hexec rfl (hb hbytes d9) rfl ?_
    exact Steps.refl _)
  rw [hx.2.2.2.2.1.len v31] at c5
  exact ⟨T4, some (.int (Int32.ofNat n)), _, _, _, X4, rfl, rfl, rfl, (fun h => by cases h), ⟨rfl, q4.trans hh2⟩, fun fs hl => c5.trans (X4.ireturnOut hexec hret rfl (Or.inl rfl) (hb hbytes d10) hl)⟩
theorem pays {l : Launch} {R : Room} {p : Program} {e : Env} {below : List Frame} {s : State} {sargs : Array Value} {len W : Nat} (x t : Addr) (V : Cell) (cd : Int32) (n : Nat) (f : Nat → Int32) (z : Int32) (htab : tab.before sargs s = true) (hfr : 2 ≤ R.frames) (hlo : W + 25 ≤ R.locals) :
    Back l R p e below s sargs yN len W (fun A₁ a₁ => A₁.cells + 0 ≤ R.cells ∧ A₁.slots + 0 ≤ R.slots ∧ P x t V cd n f z a₁ A₁.U) (fun A₁ _ v₁ B₁ => E n v₁ A₁.U B₁.U ∧ B₁.locs = A₁.locs ++ [] ∧ B₁.cells = A₁.cells + 0 ∧ B₁.slots = A₁.slots + 0) :=
  (law l x t V cd n f z).pays htab hfr (by omega)
end Len
end StrChars
namespace StrChars.Road
open Jvm Sem ClassFile Op Lib Jvm.Stand Jvm.Free Jvm.Free.XT
open Jvm.Lib.Cold (StaticIs)
theorem consq {a : Array Value} {s : State} {c : Jvm.Cond} {L : List Jvm.Cond} (h0 : c.before a s = true) (h : ∀ w ∈ L, w.before a s = true) : ∀ w ∈ c :: L, w.before a s = true := fun w hw => (List.mem_cons.mp hw).elim (fun e => e ▸ h0) (h w)
/-- the words of String.length(), either coding -/
abbrev wordsLen : List Jvm.Cond := [.code Len.yN Len.yB 1 (some .int), .initialized ST, .fieldLink ST 9 ST "value" "[B", .fieldLink ST 38 ST "COMPACT_STRINGS" "Z", .fieldLink ST 15 ST "coder" "B", .code Cdr.yN Cdr.yB 1 (some .byte), .methodLink ST 335 Cdr.yN, .declares Cdr.yN, .selects ST Cdr.yN Cdr.yN, .instanceMethod Cdr.yN]
theorem tabLen_of {a : Array Value} {s : State} (h : ∀ w ∈ wordsLen, w.before a s = true) : Len.tab.before a s = true := by
  have hc : Cdr.tab.before a s = true := unparts (wk h (.code Cdr.yN Cdr.yB 1 (some .byte))) (wks h (.initialized Cdr.yN.cls :: Cdr.site))
  have q := consq hc h
  exact unparts (wk q (.code Len.yN Len.yB 1 (some .int))) (wks q (.initialized Len.yN.cls :: Len.site))
theorem movedLen {Z s : State} {a0 args : Array Value} (hZ : Z.Warmed39 s.vm) (hw : ∀ d ∈ wordsLen, d.before a0 Z = true) : ∀ d ∈ wordsLen, d.before args s = true := fun d hd => by
  have q := hw d hd
  have t : ∀ d ∈ wordsLen, d = .arrayClass .byte ∨ (d.onTables && d.keepsFace) = true := by decide +kernel
  rcases t d hd with rfl | t
  · exact RoadKit.mvA hZ q
  · exact RoadKit.mv hZ q t
/-- the bytes of the chars cs, low before high -/
def wideBytes : List Int32 → List Value
  | [] => []
  | c :: cs => .int (lo8 c) :: .int (hi8 c) :: wideBytes cs
theorem wide_lo (d : Value) : ∀ (cs : List Int32) (j : Nat), j < cs.length → (wideBytes cs).getD (2 * j) d = .int (lo8 (cs.getD j 0))
  | [], j, h => absurd h (Nat.not_lt_zero j)
  | c :: cs, 0, _ => rfl
  | c :: cs, j + 1, h => by
    have q := wide_lo d cs j (by simpa using h)
    rw [show 2 * (j + 1) = 2 * j + 1 + 1 from by omega]
    simpa [wideBytes] using q
theorem wide_hi (d : Value) : ∀ (cs : List Int32) (j : Nat), j < cs.length → (wideBytes cs).getD (2 * j + 1) d = .int (hi8 (cs.getD j 0))
  | [], j, h => absurd h (Nat.not_lt_zero j)
  | c :: cs, 0, _ => rfl
  | c :: cs, j + 1, h => by
    have q := wide_hi d cs j (by simpa using h)
    rw [show 2 * (j + 1) + 1 = 2 * j + 1 + 1 + 1 from by omega]
    simpa [wideBytes] using q
theorem low_at (d : Value) (cs : List Int32) (j : Nat) (h : j < cs.length) : (cs.map fun c => Value.int (lo8 c)).getD j d = .int (lo8 (cs.getD j 0)) := by
  simp [List.getD_eq_getElem?_getD, h]
/-- an array of N2 bytes vs codes the chars cs by the coder cd -/
def CodA (cs : List Int32) (cd N2 : Int32) (vs : List Value) : Prop := (cd = 0 ∧ N2 = Int32.ofNat cs.length ∧ vs = (cs.map fun c => Value.int (lo8 c)) ∧ ∀ c ∈ cs, ¬ 255 < c) ∨ (cd = 1 ∧ N2 = Int32.ofNat (2 * cs.length) ∧ vs = wideBytes cs ∧ ∃ c ∈ cs, 255 < c)
theorem CodA.cod {cs : List Int32} {cd N2 : Int32} {vs : List Value} {V : Cell} (h : CodA cs cd N2 vs) (hn : 2 * cs.length < 2 ^ 31) (hs : V.slots.size = N2.toNatClampNeg) (hv : RoadKit.Has V vs (.int 0)) : Cod cd cs.length (fun j => cs.getD j 0) V := by
  rcases h with ⟨rfl, rfl, rfl, h⟩ | ⟨rfl, rfl, rfl, c, hc, hw⟩
  · rw [n32 (by omega)] at hs
    exact Or.inl ⟨rfl, hs, fun j hj => ⟨by rw [hv j (by omega), low_at _ _ _ hj], by
      have e : cs.getD j 0 = cs[j] := by simp [List.getD_eq_getElem?_getD, hj]
      show ¬ 255 < cs.getD j 0
      rw [e]; exact h _ (List.getElem_mem _)⟩⟩
  · rw [n32 (by omega)] at hs
    obtain ⟨j, hj, rfl⟩ := List.getElem_of_mem hc
    exact Or.inr ⟨rfl, hs, fun j hj => ⟨by rw [hv _ (by omega), wide_lo _ _ _ hj], by rw [hv _ (by omega), wide_hi _ _ _ hj]⟩, j, hj, by
      have e : cs.getD j 0 = cs[j] := by simp [List.getD_eq_getElem?_getD, hj]
      show 255 < cs.getD j 0
      rw [e]; exact hw⟩
/-- an object of exactly java/lang/String, its two fields found: as the laws ask it -/
theorem strObj {Z U : State} {a0 : Array Value} {kI : Nat} (wi : (Jvm.Cond.instantiable ST kI).before a0 Z = true) (al : Z.vm.Alike U.vm) {x : Addr} {v0 c0 : Value} (E : RoadKit.Exa Z U.heap x ST) (V : RoadKit.Fld Z U.heap x ST "value" "[B" v0) (C : RoadKit.Fld Z U.heap x ST "coder" "B" c0) :
    ∃ (D : Cell) (fV fC : Field), Blank ST x D U ∧ Found ST "value" "[B" fV U ∧ Found ST "coder" "B" fC U ∧ D.slots[fV.slot]? = some v0 ∧ D.slots[fC.slot]? = some c0 ∧ RoadKit.slotOf Z ST "value" "[B" = fV.slot ∧ RoadKit.slotOf Z ST "coder" "B" = fC.slot := by
  obtain ⟨D, cfV, kV, iV, fV, hD, gV, stV, knV, obV, asV, slV⟩ := V
  obtain ⟨D', cfC, kC, iC, fC, hD', gC, stC, -, -, asC, slC⟩ := C
  cases hD.symm.trans hD'
  obtain ⟨D2, kD, e1, e2, e3, e4, e5⟩ := E
  cases hD.symm.trans e1
  obtain ⟨c2, k2, i1, i2, i3, -⟩ := Cond.instantiable_spec wi
  cases e2.symm.trans i1
  cases e3.symm.trans i2
  obtain ⟨kU, u1, u2⟩ := al.2.2 _ _ e3
  exact ⟨D, fV, fC, ⟨hD, ⟨knV, fun q hq => by rw [hq] at obV; cases obV⟩, by rw [al.findClass]; exact e2, kU, u1, by rw [u2]; exact i3, by rw [u2]; exact e5 i3⟩, ⟨SBG.found_only al ⟨cfV, kV, iV, gV⟩, stV⟩, ⟨SBG.found_only al ⟨cfC, kC, iC, gC⟩, stC⟩, slV, slC, by simp [RoadKit.slotOf, gV], by simp [RoadKit.slotOf, gC]⟩
theorem sta_is {Z U : State} (al : Z.vm.Alike U.vm) {C n d : String} {v : Value} (S : RoadKit.Sta Z U.heap C n d v) : StaticIs U C n d v := by
  obtain ⟨cfS, iS, kS, fS, st, cS, t1, t2, t3, t4, t5, t6, t7⟩ := S
  exact StaticIs.there (s := { Z with heap := U.heap }) ⟨cfS, iS, kS, fS, st, cS, t1, t2, t3, t4, t5, (fun q => by rw [q] at t6; cases t6), t7⟩ al rfl
/-- **length() OF SUCH A STRING** -/
theorem lenW {p : Program} {l : Launch} {e : Env} {R : Room} {s : State} {args : Array Value} {below : List Frame} {len W : Nat} {Z : State} {a0 : Array Value} {h : Heap} (hZ : Z.Warmed39 s.vm) (hw : ∀ d ∈ wordsLen, d.before a0 Z = true) {kI : Nat} (wi : (Jvm.Cond.instantiable ST kI).before a0 Z = true)
    {x t : Addr} {kb : ClassId} {cs : List Int32} {cd N2 z : Int32} {vs : List Value} (E : RoadKit.Exa Z h x ST) (V : RoadKit.Fld Z h x ST "value" "[B" (.ref t)) (C : RoadKit.Fld Z h x ST "coder" "B" (.int cd)) (K : RoadKit.Arv Z h t kb .byte N2 vs (.int 0)) (hc : CodA cs cd N2 vs) (hb : ∀ c ∈ cs, ¬ c < 0 ∧ ¬ (65535 : Int32) < c)
    (S : RoadKit.Sta Z h ST "COMPACT_STRINGS" "Z" (.int z)) (hz : ¬ z = 0) (l2 : cs.length ≤ 4000) (hfr : 2 ≤ R.frames) (hlo : W + 25 ≤ R.locals) :
    Back l R p e below s args (⟨"java/lang/String", "length", "()I"⟩ : MethodName) len W (fun P a => a = #[.ref x] ∧ P.U.heap = h ∧ P.cells + 0 ≤ R.cells ∧ P.slots + 0 ≤ R.slots)
      (fun P _ v B => ∃ L, (v = some (.int (Int32.ofNat cs.length)) ∧ L = [] ∧ B.U.heap = h) ∧ B.locs = P.locs ++ L ∧ B.cells = P.cells + 0 ∧ B.slots = P.slots + 0) := by
  obtain ⟨A, K1, K2, K3, K4, K5, K6⟩ := K
  have hcod := hc.cod (by omega) K3 K5
  intro m meth c P g ig mk a X hg hsize hdg hW hn hp'
  obtain ⟨rfl, rfl, r1, r2⟩ := hp'
  have al : Z.vm.Alike P.U.vm := hZ.alike.trans X.warmed.alike
  obtain ⟨D, fV, fC, hB, F1, F2, g1, g2, -, -⟩ := strObj wi al E V C
  have hx : Txt x t A cd cs.length (fun j => cs.getD j 0) P.U := ⟨⟨_, hB.2.2.1, D, hB.1, rfl, by cases q : D.vm <;> first | rfl | exact absurd q (hB.2.1.2 _)⟩, Has.of hB F1 g1, Has.of hB F2 g2, ⟨K1.1, State.isArrayOf_alike al K1.2.1, K1.2.2, by rcases hcod with ⟨-, q, -⟩ | ⟨-, q, -⟩ <;> omega⟩, hcod, fun j hj => by
    have e : cs.getD j 0 = cs[j] := by simp [List.getD_eq_getElem?_getD, hj]
    show ¬ cs.getD j 0 < 0 ∧ ¬ 65535 < cs.getD j 0
    rw [e]; exact hb _ (List.getElem_mem _)⟩
  obtain ⟨v, B, X', ⟨⟨hv, hh⟩, hl, hk, hs⟩, st⟩ := Len.pays x t A cd cs.length (fun j => cs.getD j 0) z (tabLen_of (movedLen hZ hw)) hfr hlo m meth c P g ig mk _ X hg hsize hdg hW hn ⟨r1, r2, rfl, hx, sta_is al S, hz⟩
  exact ⟨v, B, X', ⟨[], ⟨hv, rfl, hh⟩, hl, hk, hs⟩, st⟩
end StrChars.Road
namespace StrChars.Road
open Jvm Sem ClassFile Op Lib Jvm.Stand Jvm.Free Jvm.Free.XT
open Jvm.Lib.Cold (StaticIs)
/-- what backV says of its String, as the contracts of this text ask it: cs's low bytes, coder 0 -/
theorem codOf {cs : List Int32} {n : Nat} (hn : cs.length = n) (hb : ∀ c ∈ cs, ¬ 255 < c) : CodA cs 0 (Int32.ofNat n) ((cs.map lo8).map Value.int) := Or.inl ⟨rfl, by rw [hn], by simp [List.map_map, Function.comp_def], hb⟩
end StrChars.Road
end Jvm.Pilot.@@N@@
namespace Jvm.Pilot.@@N@@
open Jvm Jvm.ClassFile Sem Op Lib Jvm.Free Jvm.Stand Jvm.LawKit Jvm.RoadKit Bundle Jvm.Pilot.@@N@@.Jvm.D
section OwnStr
variable {p : Program} {l : Launch} {e : Env} {R : Room} {s : State} {m : MethodId} {args : Array Value} {below : List Frame} {meth : Method} {c : Code} {Z : State} {EL : List (String × Nat)} {n0 : Nat} {own : String} {code : ByteArray} {ml : Nat} {bw : Bool} {vm : Vm} {T : State} {h h' : Heap} {locs : List Loc} {cells slots : Nat} {a0 : Array Value} {x t : Addr} {cs : List Int32} {len W : Nat} {ws : List Addr}
/-- the String at x, its bytes at t, spells cs -/
def Str (Z : State) (h : Heap) (x t : Addr) (cs : List Int32) : Prop := Exa Z h x "java/lang/String" ∧ (∃ (cd N : Int32) (vs : List Value) (kb : ClassId), Fld Z h x "java/lang/String" "value" "[B" (.ref t) ∧ Fld Z h x "java/lang/String" "coder" "B" (.int cd) ∧ Arv Z h t kb .byte N vs (.int 0) ∧ StrChars.Road.CodA cs cd N vs) ∧ (∀ c ∈ cs, ¬ c < 0 ∧ ¬ (65535 : Int32) < c) ∧ cs.length ≤ 4000
theorem Str.ext (E : Ext h h') (F : Str Z h x t cs) : Str Z h' x t cs := by
  obtain ⟨a1, ⟨cd, N, vs, kb, b1, b2, b3, b4⟩, r⟩ := F; exact ⟨a1.ext E, ⟨cd, N, vs, kb, b1.ext E, b2.ext E, b3.ext E, b4⟩, r⟩
theorem Str.keep (F : Str Z h x t cs) (K : Keep h h' ws) (q : x ∉ ws) (q' : t ∉ ws) : Str Z h' x t cs := by
  obtain ⟨a1, ⟨cd, N, vs, kb, b1, b2, b3, b4⟩, r⟩ := F; exact ⟨a1.keep K, ⟨cd, N, vs, kb, b1.keep K q, b2.keep K q, b3.keep K q', b4⟩, r⟩
theorem strLit {b : Addr} {kb : ClassId} {z : Int32} {vs : List Value} (E : Exa Z h x "java/lang/String") (C : Fld Z h x "java/lang/String" "coder" "B" (.int 0)) (V : Fld Z h x "java/lang/String" "value" "[B" (.ref b)) (K : Arv Z h b kb .byte z vs (.int 0)) (q : StrChars.Road.CodA cs 0 z vs) (r : ∀ c ∈ cs, ¬ c < 0 ∧ ¬ (65535 : Int32) < c) (r2 : cs.length ≤ 4000) : Str Z h x b cs := ⟨E, ⟨0, z, vs, kb, V, C, K, q⟩, r, r2⟩
theorem Str.open (F : Str Z h x t cs) (lat : ∀ c ∈ cs, ¬ (255 : Int32) < c) : ∃ kb, Fld Z h x "java/lang/String" "value" "[B" (.ref t) ∧ Fld Z h x "java/lang/String" "coder" "B" (.int 0) ∧ Arv Z h t kb .byte (Int32.ofNat cs.length) (cs.map fun c => Value.int (StrChars.lo8 c)) (.int 0) := by
  obtain ⟨a1, ⟨cd, N, vs, kb, b1, b2, b3, b4⟩, r1, r2⟩ := F
  rcases b4 with ⟨rfl, rfl, rfl, -⟩ | ⟨-, -, -, c, hc, q⟩
  · exact ⟨kb, b1, b2, b3⟩
  · exact absurd q (lat c hc)
theorem Str.exa (F : Str Z h x t cs) : Exa Z h x "java/lang/String" := F.1
theorem Str.lt (F : Str Z h x t cs) : x < h.size := F.1.lt
theorem Str.lt' (F : Str Z h x t cs) : t < h.size := by obtain ⟨_, ⟨_, _, _, _, -, -, b3, -⟩, -⟩ := F; exact b3.lt
theorem up8 {c : Int32} (q : ¬ (255 : Int32) < c) : ¬ (65535 : Int32) < c := fun r => q (by rw [Int32.lt_iff_toInt_lt] at r ⊢; have e1 : (65535 : Int32).toInt = 65535 := rfl; have e2 : (255 : Int32).toInt = 255 := rfl; omega)
theorem payLen (A : WS p l e R s m args below meth c Z EL n0 own code ml bw vm T h locs cells slots) (hw : ∀ d ∈ tables_1, d.before a0 Z = true) {kI : Nat} (wi : (Jvm.Cond.instantiable "java/lang/String" kI).before a0 Z = true) (F : Str Z h x t cs) {zc : Int32} (O : Sta Z Z.heap "java/lang/String" "COMPACT_STRINGS" "Z" (.int zc)) (hz : ¬ zc = 0) (hfr : 2 ≤ R.frames) (hlo : W + 25 ≤ R.locals) : BkN l R p e below (s.setVm vm) args (⟨"java/lang/String", "length", "()I"⟩ : MethodName) len W #[.ref x] h n0 [] (fun v h' => v = some (.int (Int32.ofNat cs.length)) ∧ h' = h) 0 0 := by
  obtain ⟨a1, ⟨cd, N, vs, kb, b1, b2, b3, b4⟩, r1, r2⟩ := F
  exact Back.mono (StrChars.Road.lenW A.hZ (fun d hd => hw d ((by decide +kernel : ∀ d ∈ StrChars.Road.wordsLen, d ∈ tables_1) d hd)) wi a1 b1 b2 b3 b4 r1 (O.ext A.old.2) hz r2 hfr hlo) (fun _ _ q => q) (fun B a v B' hp hq => by obtain ⟨L, ⟨q1, rfl, q3⟩, r⟩ := hq; exact ⟨[], ⟨Fr.nil n0, by rw [q3]; exact Keep.refl _ _, q1, q3⟩, r⟩)
theorem payNew (A : WS p l e R s m args below meth c Z EL n0 own code ml bw vm T h locs cells slots) (hw : ∀ d ∈ tables_1, d.before a0 Z = true) {kI : Nat} (wi : (Jvm.Cond.instantiable "java/lang/String" kI).before a0 Z = true) {b : Addr} {kC : ClassId} {d v0 c0 : Value} {N : Int32} (n : Nat) (gx : n0 ≤ x) (E : Exa Z h x "java/lang/String") (V : Fld Z h x "java/lang/String" "value" "[B" v0) (C : Fld Z h x "java/lang/String" "coder" "B" c0) (K : Arv Z h b kC .char N (cs.map Value.int) d) {zc : Int32} (O : Sta Z Z.heap "java/lang/String" "COMPACT_STRINGS" "Z" (.int zc)) (hz : ¬ zc = 0) (hn : cs.length = n) (hN : N = Int32.ofNat n) (l0 : 0 < n) (l2 : n ≤ 4000) (hp : ∀ c ∈ cs, ¬ c < 0 ∧ ¬ (255 : Int32) < c) (hfr : 4 ≤ R.frames) (hlo : W + 65 ≤ R.locals) :
    BkN l R p e below (s.setVm vm) args (⟨"java/lang/String", "<init>", "([C)V"⟩ : MethodName) len W #[.ref x, .ref b] h n0 [x] (fun v h' => v = none ∧ ∃ t : Addr, n0 ≤ t ∧ h.size ≤ t ∧ ¬ t = x ∧ Str Z h' x t cs) 1 n := by
  refine Back.mono (StrChars.Road.backV A.hZ (fun d hd => hw d ((by decide +kernel : ∀ d ∈ StrChars.Road.words, d ∈ tables_1) d hd)) wi gx A.sz E V C K (O.ext A.old.2) hz hn hN l0 l2 hp rfl hfr hlo) (fun _ _ q => q) (fun B a v B' hp' hq => ?_)
  obtain ⟨L, ⟨rfl, q2, q3, q4, q5, t, kb, q6, q7, q8, q9, q10⟩, r⟩ := hq
  exact ⟨L, ⟨q2, q3, rfl, t, q6, q7, q8, q4, ⟨0, N, _, kb, q9, q5, q10, by rw [hN]; exact StrChars.Road.codOf hn fun c hc => (hp c hc).2⟩, fun c hc => ⟨(hp c hc).1, up8 (hp c hc).2⟩, by omega⟩, r⟩
end OwnStr
end Jvm.Pilot.@@N@@
namespace Jvm.Pilot.@@N@@
open Jvm Jvm.ClassFile Sem Op Lib Jvm.Free Jvm.Stand Jvm.LawKit Jvm.RoadKit Bundle Jvm.Pilot.@@N@@.Jvm.D
theorem ln {P : Int32 → Prop} : ∀ c ∈ ([] : List Int32), P c := fun _ q => nomatch q
theorem lc {P : Int32 → Prop} {a : Int32} {L : List Int32} (q : P a) (r : ∀ c ∈ L, P c) : ∀ c ∈ a :: L, P c := fun c z => (List.mem_cons.mp z).elim (fun u => u ▸ q) (r c)
theorem lat2 {L : List Int32} (q : ∀ c ∈ L, ¬ c < 0 ∧ ¬ (255 : Int32) < c) : ∀ c ∈ L, ¬ (255 : Int32) < c := fun c hc => (q c hc).2
theorem chr_id {z : Int32} (q : 0 ≤ z.toInt ∧ z.toInt ≤ 65535) : z.toUInt32.toUInt16.toUInt32.toInt32 = z := by
  have a := c_i2c z; exact Int32.toInt_inj.mp (by omega)
theorem nar_id {z : Int32} (q : 0 ≤ z.toInt ∧ z.toInt ≤ 65535) : nar .char z = z := chr_id q
theorem chr_rng (z : Int32) : 0 ≤ (z.toUInt32.toUInt16.toUInt32.toInt32).toInt ∧ (z.toUInt32.toUInt16.toUInt32.toInt32).toInt ≤ 65535 := by
  have a := c_i2c z; omega
theorem lat_of {z : Int32} (q : 0 ≤ z.toInt ∧ z.toInt ≤ 255) : ¬ z < 0 ∧ ¬ (255 : Int32) < z := by
  rw [Int32.lt_iff_toInt_lt, Int32.lt_iff_toInt_lt]; have e1 : (255 : Int32).toInt = 255 := rfl; have e2 : (0 : Int32).toInt = 0 := rfl; omega
theorem of_lat {z : Int32} (q : ¬ z < 0 ∧ ¬ (255 : Int32) < z) : 0 ≤ z.toInt ∧ z.toInt ≤ 255 := by
  rw [Int32.lt_iff_toInt_lt, Int32.lt_iff_toInt_lt] at q; have e1 : (255 : Int32).toInt = 255 := rfl; have e2 : (0 : Int32).toInt = 0 := rfl; omega
theorem lt_i {x y : Int32} : x < y ↔ x.toInt < y.toInt := Int32.lt_iff_toInt_lt
theorem and255 (x : Int32) : 0 ≤ (x &&& 255).toInt ∧ (x &&& 255).toInt ≤ 255 := c_and x 255 (by decide)
abbrev ELs : List (String × Nat) := [("java/lang/String", 7)]
theorem strA {Z : State} {a0 : Array Value} (hw : ∀ d ∈ tables_1, d.before a0 Z = true) : ∀ a ∈ Bundle.stringAtoms, a.before a0 Z = true := fun d hd => hw d ((by decide +kernel : ∀ d ∈ Bundle.stringAtoms, d ∈ tables_1) d hd)
def idxL : List Int32 → Int32 → Int32
  | [], _ => -1
  | c :: cs, i => if c = 32 then i else idxL cs (i + 1)
theorem lo32 {c : Int32} (q : ¬ c < 0 ∧ ¬ (255 : Int32) < c) : StrChars.lo8 c = 32 ↔ c = 32 := by
  have r := of_lat q; have b := c_i2b c; have l : (32 : Int32).toInt = 32 := rfl
  constructor
  · intro h; apply Int32.toInt_inj.mp; have h2 := congrArg Int32.toInt h; simp only [StrChars.lo8] at h2; omega
  · intro h; subst h; decide
theorem pn0 : plainName "java/lang/String" = true := by first | (simp [plainName, overriddenIn]; done) | decide +kernel
theorem d4_0 : decode jdk_42_method_149_code 0 = .ok (.aload_n 0, 1) := by decide +kernel
theorem d4_1 : decode jdk_42_method_149_code 1 = .ok (.invokespecial 1, 3) := by decide +kernel
theorem d4_4 : decode jdk_42_method_149_code 4 = .ok (.iload_n 3, 1) := by decide +kernel
theorem d4_5 : decode jdk_42_method_149_code 5 = .ok (.ifCond .ne 22, 3) := by decide +kernel
theorem d4_8 : decode jdk_42_method_149_code 8 = .ok (.aload_n 0, 1) := by decide +kernel
theorem d4_9 : decode jdk_42_method_149_code 9 = .ok (.ldc 7, 2) := by decide +kernel
theorem d4_11 : decode jdk_42_method_149_code 11 = .ok (.getfield 9, 3) := by decide +kernel
theorem d4_14 : decode jdk_42_method_149_code 14 = .ok (.putfield 9, 3) := by decide +kernel
theorem d4_17 : decode jdk_42_method_149_code 17 = .ok (.aload_n 0, 1) := by decide +kernel
theorem d4_18 : decode jdk_42_method_149_code 18 = .ok (.ldc 7, 2) := by decide +kernel
theorem d4_20 : decode jdk_42_method_149_code 20 = .ok (.getfield 15, 3) := by decide +kernel
theorem d4_23 : decode jdk_42_method_149_code 23 = .ok (.putfield 15, 3) := by decide +kernel
theorem d4_26 : decode jdk_42_method_149_code 26 = .ok (.return_, 1) := by decide +kernel
set_option maxRecDepth 65536 in
set_option maxHeartbeats 40000000 in
theorem m_new4E (l : Launch) (Z : State) (a0 : Array Value) (hw : ∀ d ∈ tables_1, d.before a0 Z = true) (x b : Addr) (h0 : Heap) (n0 : Nat) (ho : Old Z n0 h0) (hEL : EW Z a0 ELs) (E : Exa Z h0 x "java/lang/String") (V : Fld Z h0 x "java/lang/String" "value" "[B" .null) (C : Fld Z h0 x "java/lang/String" "coder" "B" (.int 0)) (gx : n0 ≤ x) :
    CW l (⟨"java/lang/String", "<init>", "([CIILjava/lang/Void;)V"⟩ : MethodName) jdk_42_method_149_code 6 none [] ({ frames := 1, cells := 2, slots := 4, locals := 12 } : Room) Z ELs [x] n0 h0 #[(.ref x), (.ref b), (.int (0 : Int32)), (.int (0 : Int32)), .null] [x] (fun v h => v = none ∧ ∃ t : Addr, Str Z h x t []) := by
  refine CW.walk (plainFor_of_name pn0) ho (L0 := #[.val (.ref x), .val (.ref b), .val (.int (0 : Int32)), .val (.int (0 : Int32)), .val .null, .unset]) (fun m => rfl) ?_
  intro pG e s m below meth cO T hlk hret hnm hSL A0
  have K0 : Keep h0 h0 [x] := Keep.refl _ _
  have sx := hSL x (List.mem_singleton.mpr rfl)
  refine f_aloadN A0 d4_0 (pc' := 1) rfl rfl rfl ?_
  refine f_initO A0 (W := 0) d4_1 (pc' := 4) rfl (wd hw 18 rfl) (wd hw 19 rfl) (wd hw 20 rfl) rfl (by decide) (Nat.le_of_eq rfl) (by decide) fun T1 A1 => ?_
  refine f_iloadN A1 d4_4 (pc' := 5) rfl rfl ?_
  refine f_ifN A1 d4_5 ((if0 _ _).trans (teq (by decide : (0 : Int32) = (0 : Int32))).2) (pc' := 8) rfl ?_
  refine f_aloadN A1 d4_8 (pc' := 9) rfl rfl rfl ?_
  refine f_ldcC A1 d4_9 (pc' := 11) rfl (by decide) (vs := []) (z := 0) ⟨by decide, by decide⟩ (by decide) (by decide) (wd hw 21 rfl) (strA hw) hEL (n := 0) (by decide) (by decide) (by decide) (by decide) fun a2 b2 kb2 vm2 T2 h2 A2 E2 C2 Li2 x2 fc2 fv2 av2 hs2 => ?_
  have G2 : Str Z h2 a2 b2 [] := strLit x2 fc2 fv2 av2 (Or.inl ⟨rfl, rfl, rfl, by decide⟩) (by decide) (by decide)
  have Q3 : Keep h0 h2 [x] := K0.ext E2
  refine f_getF A2 d4_11 (pc' := 14) rfl (host := "") (Or.inl (wd hw 27 rfl)) Via.refl fv2 fun T4 A4 => ?_
  have c6 := (V.ext E2)
  have c7 := (E.ext E2)
  have c8 := (CHr.safe C2 E.lt sx)
  refine f_putF A4 (.ref b2) d4_14 (pc' := 17) rfl (wd hw 27 rfl) Via.refl c6 c7 (Or.inr ⟨(wd hw 23 rfl), rfl, hnm⟩) (wd hw 8 rfl) (ty := (.array .byte)) (by decide) rfl rfl gx (fun _ => c8) fun T5 h5 A5 W5 K5 X5 F5 => ?_
  have c9 := (C.ext E2)
  have Q10 : Keep h0 h5 [x] := Q3.trans K5 (allS (Or.inl (List.mem_of_getElem? (i := 0) rfl)) all0)
  refine f_aloadN A5 d4_17 (pc' := 18) rfl rfl rfl ?_
  refine f_ldcA A5 d4_18 (pc' := 20) rfl (wd hw 21 rfl) Li2 ?_
  have c13 := (fc2.keep K5 (ninS (Ne.symm (hs2 _ c8).1) nin0))
  refine f_getF A5 d4_20 (pc' := 23) rfl (host := "") (Or.inl (wd hw 28 rfl)) Via.refl c13 fun T12 A12 => ?_
  have c15 := (Safe.keep K5 (sfS c8 sf0) (A4.ch rfl).1 c8)
  refine f_putF A12 (.int (0 : Int32)) d4_23 (pc' := 26) rfl (wd hw 28 rfl) Via.refl (c9.other W5 (Or.inr (slot_ne (Or.inr (wd hw 24 rfl)) (Or.inr (wd hw 23 rfl)) (by decide) (t := .byte) (t' := (.array .byte)) (by decide) (by decide)))) X5 (Or.inr ⟨(wd hw 24 rfl), rfl, hnm⟩) (wd hw 8 rfl) (ty := .byte) (by decide) rfl (by decide) gx (fun _ => c15) fun T14 h14 A14 W14 K14 X14 F14 => ?_
  have Q16 : Keep h0 h14 [x] := Q10.trans K14 (allS (Or.inl (List.mem_of_getElem? (i := 0) rfl)) all0)
  have c17 := ((av2.keep K5 (ninS (Ne.symm (hs2 _ c8).2) nin0)).keep K14 (ninS (Ne.symm (hs2 _ c8).2) nin0))
  have G : Str Z h14 x b2 [] := strLit X14 F14 (F5.other W14 (Or.inr (slot_ne (Or.inr (wd hw 23 rfl)) (Or.inr (wd hw 24 rfl)) (by decide) (t := (.array .byte)) (t' := .byte) (by decide) (by decide)))) c17 (Or.inl ⟨rfl, rfl, rfl, by decide⟩) (by decide) (by decide)
  exact f_retW A14 hEL hlk hret d4_26 (by decide) (by decide) Q16 ⟨rfl, b2, G⟩
theorem d3_0 : decode jdk_42_method_3_code 0 = .ok (.aload_n 0, 1) := by decide +kernel
theorem d3_1 : decode jdk_42_method_3_code 1 = .ok (.aload_n 1, 1) := by decide +kernel
theorem d3_2 : decode jdk_42_method_3_code 2 = .ok (.iconst 0, 1) := by decide +kernel
theorem d3_3 : decode jdk_42_method_3_code 3 = .ok (.aload_n 1, 1) := by decide +kernel
theorem d3_4 : decode jdk_42_method_3_code 4 = .ok (.arraylength, 1) := by decide +kernel
theorem d3_5 : decode jdk_42_method_3_code 5 = .ok (.aconst_null, 1) := by decide +kernel
theorem d3_6 : decode jdk_42_method_3_code 6 = .ok (.invokespecial 27, 3) := by decide +kernel
theorem pd0 : parseMethodDescriptor "([CIILjava/lang/Void;)V" = some ⟨[(.array .char), .int, .int, (.object "java/lang/Void")], none⟩ := by decide +kernel
theorem d3_9 : decode jdk_42_method_3_code 9 = .ok (.return_, 1) := by decide +kernel
set_option maxRecDepth 65536 in
set_option maxHeartbeats 40000000 in
theorem m_new1E (l : Launch) (Z : State) (a0 : Array Value) (hw : ∀ d ∈ tables_1, d.before a0 Z = true) (x b : Addr) (kA : ClassId) (vs : List Value) (h0 : Heap) (n0 : Nat) (ho : Old Z n0 h0) (hEL : EW Z a0 ELs) (E : Exa Z h0 x "java/lang/String") (V : Fld Z h0 x "java/lang/String" "value" "[B" .null) (C : Fld Z h0 x "java/lang/String" "coder" "B" (.int 0)) (gx : n0 ≤ x) (Kb : Arv Z h0 b kA .char 0 vs (.int 0)) :
    CW l (⟨"java/lang/String", "<init>", "([C)V"⟩ : MethodName) jdk_42_method_3_code 2 none [] ({ frames := 2, cells := 2, slots := 4, locals := 40 } : Room) Z ELs [x] n0 h0 #[(.ref x), (.ref b)] [x] (fun v h => v = none ∧ ∃ t : Addr, Str Z h x t []) := by
  refine CW.walk (plainFor_of_name pn0) ho (L0 := #[.val (.ref x), .val (.ref b)]) (fun m => rfl) ?_
  intro pG e s m below meth cO T hlk hret hnm hSL A0
  have K0 : Keep h0 h0 [x] := Keep.refl _ _
  have sx := hSL x (List.mem_singleton.mpr rfl)
  refine f_aloadN A0 d3_0 (pc' := 1) rfl rfl rfl ?_
  refine f_aloadN A0 d3_1 (pc' := 2) rfl rfl rfl ?_
  refine f_iconst A0 d3_2 (pc' := 3) rfl 0 rfl ?_
  refine f_aloadN A0 d3_3 (pc' := 4) rfl rfl rfl ?_
  refine f_arraylength A0 d3_4 (pc' := 5) rfl Kb ?_
  refine f_aconst_null A0 d3_5 (pc' := 6) rfl ?_
  refine f_callIW A0 (a := x) d3_6 (pc' := 9) rfl rfl (wd hw 14 rfl) (wd hw 15 rfl) (wd hw 17 rfl) (by decide) pd0 [(.ref b), (.int (0 : Int32)), (.int (0 : Int32)), .null] [] rfl rfl rfl 0 (Nat.le_of_eq rfl) (CW.pay (W := 0) A0 hEL (m_new4E l Z a0 hw x b h0 n0 A0.old hEL E V C gx) (wd hw 17 rfl) (wd hw 9 rfl) (by decide) (by decide) (allS ⟨E.lt, sx⟩ all0)) (kc := 2) (ks := 4) (by decide) (by decide) (allS gx all0) fun v18 vm18 T18 h18 L18 A18 K18 C18 q18 => ?_
  have Q19 : Keep h0 h18 [x] := K0.trans K18 (allS (Or.inl (List.mem_of_getElem? (i := 0) rfl)) all0)
  obtain ⟨rfl, t18, G18⟩ := q18
  show Wp pG e below _ T18 (mkF m 9 _ [])
  exact f_retW A18 hEL hlk hret d3_9 (by decide) (by decide) Q19 ⟨rfl, t18, G18⟩
theorem d9_0 : decode jdk_42_method_154_code 0 = .ok (.getstatic 38, 3) := by decide +kernel
theorem d9_3 : decode jdk_42_method_154_code 3 = .ok (.ifCond .eq 14, 3) := by decide +kernel
theorem d9_6 : decode jdk_42_method_154_code 6 = .ok (.aload_n 0, 1) := by decide +kernel
theorem d9_7 : decode jdk_42_method_154_code 7 = .ok (.getfield 15, 3) := by decide +kernel
theorem d9_10 : decode jdk_42_method_154_code 10 = .ok (.ifCond .ne 7, 3) := by decide +kernel
theorem d9_13 : decode jdk_42_method_154_code 13 = .ok (.iconst 1, 1) := by decide +kernel
theorem d9_14 : decode jdk_42_method_154_code 14 = .ok (.goto 4, 3) := by decide +kernel
theorem d9_18 : decode jdk_42_method_154_code 18 = .ok (.ireturn, 1) := by decide +kernel
set_option maxRecDepth 65536 in
set_option maxHeartbeats 40000000 in
theorem m_isLat (l : Launch) (Z : State) (a0 : Array Value) (hw : ∀ d ∈ tables_1, d.before a0 Z = true) (x : Addr) (zc : Int32) (O2 : Sta Z Z.heap "java/lang/String" "COMPACT_STRINGS" "Z" (.int zc)) (P5 : ¬ zc = 0) (h0 : Heap) (n0 : Nat) (ho : Old Z n0 h0) (C : Fld Z h0 x "java/lang/String" "coder" "B" (.int 0)) :
    CN l (⟨"java/lang/String", "isLatin1", "()Z"⟩ : MethodName) jdk_42_method_154_code 1 (some .boolean) [] ({ frames := 0, cells := 0, slots := 0, locals := 0 } : Room) Z n0 h0 #[(.ref x)] [] (fun v h => v = some (.int 1) ∧ h = h0) := by
  refine CN.walk (plainFor_of_name pn0) ho (L0 := #[.val (.ref x)]) (fun m => rfl) ?_
  intro pG e s m below meth cO T hlk hret hnm A0
  have K0 : Keep h0 h0 [] := Keep.refl _ _
  refine f_getS A0 d9_0 (pc' := 3) rfl (host := "") (Or.inl (wd hw 48 rfl)) Via.refl O2 fun T20 A20 => ?_
  refine f_ifN A20 d9_3 ((if0 _ _).trans (feq P5).1) (pc' := 6) rfl ?_
  refine f_aloadN A20 d9_6 (pc' := 7) rfl rfl rfl ?_
  refine f_getF A20 d9_7 (pc' := 10) rfl (host := "") (Or.inl (wd hw 28 rfl)) Via.refl C fun T21 A21 => ?_
  refine f_ifN A21 d9_10 ((if0 _ _).trans (teq (by decide : (0 : Int32) = (0 : Int32))).2) (pc' := 13) rfl ?_
  refine f_iconst A21 d9_13 (pc' := 14) rfl 1 rfl ?_
  refine f_goto A21 d9_14 (pc' := 18) (by decide) (by decide) ?_
  exact f_retBN A21 hlk hret d9_18 (by decide) (1 : Int32) (by decide) (by decide) (by decide) K0 ⟨rfl, rfl⟩
theorem d14_0 : decode jdk_29_method_65_code 0 = .ok (.iload_n 0, 1) := by decide +kernel
theorem d14_1 : decode jdk_29_method_65_code 1 = .ok (.iload_n 1, 1) := by decide +kernel
theorem d14_2 : decode jdk_29_method_65_code 2 = .ok (.if_icmp .lt 7, 3) := by decide +kernel
theorem d14_9 : decode jdk_29_method_65_code 9 = .ok (.iload_n 1, 1) := by decide +kernel
theorem d14_10 : decode jdk_29_method_65_code 10 = .ok (.ireturn, 1) := by decide +kernel
theorem d14_5 : decode jdk_29_method_65_code 5 = .ok (.iload_n 0, 1) := by decide +kernel
theorem d14_6 : decode jdk_29_method_65_code 6 = .ok (.goto 4, 3) := by decide +kernel
set_option maxRecDepth 65536 in
set_option maxHeartbeats 40000000 in
theorem m_max (l : Launch) (Z : State) (a0 : Array Value) (hw : ∀ d ∈ tables_1, d.before a0 Z = true) (a b : Int32) (h0 : Heap) (n0 : Nat) (ho : Old Z n0 h0)  :
    CN l (⟨"java/lang/Math", "max", "(II)I"⟩ : MethodName) jdk_29_method_65_code 2 (some .int) [] ({ frames := 0, cells := 0, slots := 0, locals := 0 } : Room) Z n0 h0 #[(.int a), (.int b)] [] (fun v h => v = some (.int (if a < b then b else a)) ∧ h = h0) := by
  refine CN.walk (Jvm.Free.JP.mathPlain rfl (by decide +kernel)) ho (L0 := #[.val (.int a), .val (.int b)]) (fun m => rfl) ?_
  intro pG e s m below meth cO T hlk hret hnm A0
  have K0 : Keep h0 h0 [] := Keep.refl _ _
  refine f_iloadN A0 d14_0 (pc' := 1) rfl rfl ?_
  refine f_iloadN A0 d14_1 (pc' := 2) rfl rfl ?_
  by_cases q : a < b
  · refine f_icY A0 d14_2 (tlt q).1 (pc' := 9) (by decide) (by decide) ?_
    refine f_iloadN A0 d14_9 (pc' := 10) rfl rfl ?_
    exact f_retIN A0 hlk hret d14_10 (by decide) (by decide) K0 ⟨by rw [if_pos q], rfl⟩
  · refine f_icN A0 d14_2 (flt q).1 (pc' := 5) rfl ?_
    refine f_iloadN A0 d14_5 (pc' := 6) rfl rfl ?_
    refine f_goto A0 d14_6 (pc' := 10) (by decide) (by decide) ?_
    exact f_retIN A0 hlk hret d14_10 (by decide) (by decide) K0 ⟨by rw [if_neg q], rfl⟩
theorem d15_0 : decode jdk_29_method_69_code 0 = .ok (.iload_n 0, 1) := by decide +kernel
theorem d15_1 : decode jdk_29_method_69_code 1 = .ok (.iload_n 1, 1) := by decide +kernel
theorem d15_2 : decode jdk_29_method_69_code 2 = .ok (.if_icmp .gt 7, 3) := by decide +kernel
theorem d15_9 : decode jdk_29_method_69_code 9 = .ok (.iload_n 1, 1) := by decide +kernel
theorem d15_10 : decode jdk_29_method_69_code 10 = .ok (.ireturn, 1) := by decide +kernel
theorem d15_5 : decode jdk_29_method_69_code 5 = .ok (.iload_n 0, 1) := by decide +kernel
theorem d15_6 : decode jdk_29_method_69_code 6 = .ok (.goto 4, 3) := by decide +kernel
set_option maxRecDepth 65536 in
set_option maxHeartbeats 40000000 in
theorem m_min (l : Launch) (Z : State) (a0 : Array Value) (hw : ∀ d ∈ tables_1, d.before a0 Z = true) (a b : Int32) (h0 : Heap) (n0 : Nat) (ho : Old Z n0 h0)  :
    CN l (⟨"java/lang/Math", "min", "(II)I"⟩ : MethodName) jdk_29_method_69_code 2 (some .int) [] ({ frames := 0, cells := 0, slots := 0, locals := 0 } : Room) Z n0 h0 #[(.int a), (.int b)] [] (fun v h => v = some (.int (if b < a then b else a)) ∧ h = h0) := by
  refine CN.walk (Jvm.Free.JP.mathPlain rfl (by decide +kernel)) ho (L0 := #[.val (.int a), .val (.int b)]) (fun m => rfl) ?_
  intro pG e s m below meth cO T hlk hret hnm A0
  have K0 : Keep h0 h0 [] := Keep.refl _ _
  refine f_iloadN A0 d15_0 (pc' := 1) rfl rfl ?_
  refine f_iloadN A0 d15_1 (pc' := 2) rfl rfl ?_
  by_cases q : b < a
  · refine f_icY A0 d15_2 (tlt q).2.2.1 (pc' := 9) (by decide) (by decide) ?_
    refine f_iloadN A0 d15_9 (pc' := 10) rfl rfl ?_
    exact f_retIN A0 hlk hret d15_10 (by decide) (by decide) K0 ⟨by rw [if_pos q], rfl⟩
  · refine f_icN A0 d15_2 (flt q).2.2.1 (pc' := 5) rfl ?_
    refine f_iloadN A0 d15_5 (pc' := 6) rfl rfl ?_
    refine f_goto A0 d15_6 (pc' := 10) (by decide) (by decide) ?_
    exact f_retIN A0 hlk hret d15_10 (by decide) (by decide) K0 ⟨by rw [if_neg q], rfl⟩
theorem pn1 : plainName "java/lang/StringLatin1" = true := by first | (simp [plainName, overriddenIn]; done) | decide +kernel
theorem d13_0 : decode jdk_43_method_4_code 0 = .ok (.iload_n 0, 1) := by decide +kernel
theorem d13_1 : decode jdk_43_method_4_code 1 = .ok (.ifCond .lt 14, 3) := by decide +kernel
theorem d13_4 : decode jdk_43_method_4_code 4 = .ok (.iload_n 0, 1) := by decide +kernel
theorem d13_5 : decode jdk_43_method_4_code 5 = .ok (.sipush 255, 3) := by decide +kernel
theorem d13_8 : decode jdk_43_method_4_code 8 = .ok (.if_icmp .gt 7, 3) := by decide +kernel
theorem d13_11 : decode jdk_43_method_4_code 11 = .ok (.iconst 1, 1) := by decide +kernel
theorem d13_12 : decode jdk_43_method_4_code 12 = .ok (.goto 4, 3) := by decide +kernel
theorem d13_16 : decode jdk_43_method_4_code 16 = .ok (.ireturn, 1) := by decide +kernel
set_option maxRecDepth 65536 in
set_option maxHeartbeats 40000000 in
theorem m_can (l : Launch) (Z : State) (a0 : Array Value) (hw : ∀ d ∈ tables_1, d.before a0 Z = true)  (h0 : Heap) (n0 : Nat) (ho : Old Z n0 h0)  :
    CN l (⟨"java/lang/StringLatin1", "canEncode", "(I)Z"⟩ : MethodName) jdk_43_method_4_code 1 (some .boolean) [] ({ frames := 0, cells := 0, slots := 0, locals := 0 } : Room) Z n0 h0 #[(.int (32 : Int32))] [] (fun v h => v = some (.int 1) ∧ h = h0) := by
  refine CN.walk (plainFor_of_name pn1) ho (L0 := #[.val (.int (32 : Int32))]) (fun m => rfl) ?_
  intro pG e s m below meth cO T hlk hret hnm A0
  have K0 : Keep h0 h0 [] := Keep.refl _ _
  refine f_iloadN A0 d13_0 (pc' := 1) rfl rfl ?_
  refine f_ifN A0 d13_1 ((if0 _ _).trans (flt (by decide : ¬ (32 : Int32) < (0 : Int32))).1) (pc' := 4) rfl ?_
  refine f_iloadN A0 d13_4 (pc' := 5) rfl rfl ?_
  refine f_sipush A0 d13_5 (pc' := 8) rfl 255 rfl ?_
  refine f_icN A0 d13_8 (flt (by decide : ¬ (255 : Int32) < (32 : Int32))).2.2.1 (pc' := 11) rfl ?_
  refine f_iconst A0 d13_11 (pc' := 12) rfl 1 rfl ?_
  refine f_goto A0 d13_12 (pc' := 16) (by decide) (by decide) ?_
  exact f_retBN A0 hlk hret d13_16 (by decide) (1 : Int32) (by decide) (by decide) (by decide) K0 ⟨rfl, rfl⟩
theorem d12_0 : decode jdk_43_method_22_code 0 = .ok (.iload_n 1, 1) := by decide +kernel
theorem d12_1 : decode jdk_43_method_22_code 1 = .ok (.invokestatic 88, 3) := by decide +kernel
theorem pd1 : parseMethodDescriptor "(I)Z" = some ⟨[.int], some .boolean⟩ := by decide +kernel
theorem d12_4 : decode jdk_43_method_22_code 4 = .ok (.ifCond .ne 5, 3) := by decide +kernel
theorem d12_9 : decode jdk_43_method_22_code 9 = .ok (.iload_n 2, 1) := by decide +kernel
theorem d12_10 : decode jdk_43_method_22_code 10 = .ok (.iconst 0, 1) := by decide +kernel
theorem d12_11 : decode jdk_43_method_22_code 11 = .ok (.invokestatic 92, 3) := by decide +kernel
theorem pd2 : parseMethodDescriptor "(II)I" = some ⟨[.int, .int], some .int⟩ := by decide +kernel
theorem d12_14 : decode jdk_43_method_22_code 14 = .ok (.istore_n 2, 1) := by decide +kernel
theorem d12_15 : decode jdk_43_method_22_code 15 = .ok (.iload_n 3, 1) := by decide +kernel
theorem d12_16 : decode jdk_43_method_22_code 16 = .ok (.aload_n 0, 1) := by decide +kernel
theorem d12_17 : decode jdk_43_method_22_code 17 = .ok (.arraylength, 1) := by decide +kernel
theorem d12_18 : decode jdk_43_method_22_code 18 = .ok (.invokestatic 38, 3) := by decide +kernel
theorem d12_21 : decode jdk_43_method_22_code 21 = .ok (.istore_n 3, 1) := by decide +kernel
theorem d12_22 : decode jdk_43_method_22_code 22 = .ok (.iload_n 2, 1) := by decide +kernel
theorem d12_23 : decode jdk_43_method_22_code 23 = .ok (.iload_n 3, 1) := by decide +kernel
theorem d12_24 : decode jdk_43_method_22_code 24 = .ok (.if_icmp .lt 5, 3) := by decide +kernel
theorem d12_27 : decode jdk_43_method_22_code 27 = .ok (.iconst (-1), 1) := by decide +kernel
theorem d12_28 : decode jdk_43_method_22_code 28 = .ok (.ireturn, 1) := by decide +kernel
set_option maxRecDepth 65536 in
set_option maxHeartbeats 40000000 in
theorem m_lio0 (l : Launch) (Z : State) (a0 : Array Value) (hw : ∀ d ∈ tables_1, d.before a0 Z = true) (t : Addr) (kb : ClassId)  (h0 : Heap) (n0 : Nat) (ho : Old Z n0 h0) (V : Arv Z h0 t kb .byte 0 [] (.int 0))  :
    CN l (⟨"java/lang/StringLatin1", "indexOf", "([BIII)I"⟩ : MethodName) jdk_43_method_22_code 4 (some .int) [] ({ frames := 1, cells := 0, slots := 0, locals := 30 } : Room) Z n0 h0 #[(.ref t), (.int (32 : Int32)), (.int (0 : Int32)), (.int (0 : Int32))] [] (fun v h => v = some (.int (idxL [] 0)) ∧ h = h0) := by
  refine CN.walk (plainFor_of_name pn1) ho (L0 := #[.val (.ref t), .val (.int (32 : Int32)), .val (.int (0 : Int32)), .val (.int (0 : Int32))]) (fun m => rfl) ?_
  intro pG e s m below meth cO T hlk hret hnm A0
  have K0 : Keep h0 h0 [] := Keep.refl _ _
  refine f_iloadN A0 d12_0 (pc' := 1) rfl rfl ?_
  refine f_callS A0 d12_1 (pc' := 4) rfl (wd hw 63 rfl) (wd hw 64 rfl) (wd hw 61 rfl) (wd hw 65 rfl) (by decide) pd1 [(.int (32 : Int32))] [] rfl rfl rfl 0 (Nat.le_of_eq rfl) (CN.pay (W := 0) A0 (m_can l Z a0 hw h0 n0 A0.old) (wd hw 65 rfl) (wd hw 61 rfl) (by decide) (by decide)) (kc := 0) (ks := 0) (by decide) (by decide) all0 (fun q => nomatch q) fun v22 T22 h22 L22 A22 K22 q22 => ?_
  obtain ⟨rfl, hh22⟩ := q22
  obtain rfl := hh22.symm
  show Wp pG e below _ T22 (mkF m 4 _ [(.int (1 : Int32))])
  refine f_ifY A22 d12_4 ((if0 _ _).trans (feq (by decide : ¬ (1 : Int32) = (0 : Int32))).2) (pc' := 9) (by decide) (by decide) ?_
  refine f_iloadN A22 d12_9 (pc' := 10) rfl rfl ?_
  refine f_iconst A22 d12_10 (pc' := 11) rfl 0 rfl ?_
  refine f_callS A22 d12_11 (pc' := 14) rfl (wd hw 66 rfl) (wd hw 67 rfl) (wd hw 68 rfl) (wd hw 69 rfl) (by decide) pd2 [(.int (0 : Int32)), (.int (0 : Int32))] [] rfl rfl rfl 0 (Nat.le_of_eq rfl) (CN.pay (W := 0) A22 (m_max l Z a0 hw (0 : Int32) (0 : Int32) h0 n0 A22.old) (wd hw 69 rfl) (wd hw 68 rfl) (by decide) (by decide)) (kc := 0) (ks := 0) (by decide) (by decide) all0 (fun q => nomatch q) fun v23 T23 h23 L23 A23 K23 q23 => ?_
  obtain ⟨e23, hh23⟩ := q23
  obtain rfl := hh23.symm
  rw [if_neg (by decide)] at e23
  subst e23
  show Wp pG e below _ T23 (mkF m 14 _ [(.int (0 : Int32))])
  refine f_istoreN A23 d12_14 (pc' := 15) rfl (L' := #[.val (.ref t), .val (.int (32 : Int32)), .val (.int (0 : Int32)), .val (.int (0 : Int32))]) rfl ?_
  refine f_iloadN A23 d12_15 (pc' := 16) rfl rfl ?_
  refine f_aloadN A23 d12_16 (pc' := 17) rfl rfl rfl ?_
  refine f_arraylength A23 d12_17 (pc' := 18) rfl V ?_
  refine f_callS A23 d12_18 (pc' := 21) rfl (wd hw 70 rfl) (wd hw 71 rfl) (wd hw 68 rfl) (wd hw 72 rfl) (by decide) pd2 [(.int (0 : Int32)), (.int (0 : Int32))] [] rfl rfl rfl 0 (Nat.le_of_eq rfl) (CN.pay (W := 0) A23 (m_min l Z a0 hw (0 : Int32) (0 : Int32) h0 n0 A23.old) (wd hw 72 rfl) (wd hw 68 rfl) (by decide) (by decide)) (kc := 0) (ks := 0) (by decide) (by decide) all0 (fun q => nomatch q) fun v24 T24 h24 L24 A24 K24 q24 => ?_
  obtain ⟨e24, hh24⟩ := q24
  obtain rfl := hh24.symm
  rw [if_neg (by decide)] at e24
  subst e24
  show Wp pG e below _ T24 (mkF m 21 _ [(.int (0 : Int32))])
  refine f_istoreN A24 d12_21 (pc' := 22) rfl (L' := #[.val (.ref t), .val (.int (32 : Int32)), .val (.int (0 : Int32)), .val (.int (0 : Int32))]) rfl ?_
  refine f_iloadN A24 d12_22 (pc' := 23) rfl rfl ?_
  refine f_iloadN A24 d12_23 (pc' := 24) rfl rfl ?_
  refine f_icN A24 d12_24 (flt (by decide : ¬ (0 : Int32) < (0 : Int32))).1 (pc' := 27) rfl ?_
  refine f_iconst A24 d12_27 (pc' := 28) rfl (-1) rfl ?_
  exact f_retIN A24 hlk hret d12_28 (by decide) (by decide) K0 ⟨rfl, rfl⟩
theorem d8_0 : decode jdk_42_method_80_code 0 = .ok (.aload_n 0, 1) := by decide +kernel
theorem d8_1 : decode jdk_42_method_80_code 1 = .ok (.invokevirtual 492, 3) := by decide +kernel
theorem pd3 : parseMethodDescriptor "()Z" = some ⟨[], some .boolean⟩ := by decide +kernel
theorem d8_4 : decode jdk_42_method_80_code 4 = .ok (.ifCond .eq 19, 3) := by decide +kernel
theorem d8_7 : decode jdk_42_method_80_code 7 = .ok (.aload_n 0, 1) := by decide +kernel
theorem d8_8 : decode jdk_42_method_80_code 8 = .ok (.getfield 9, 3) := by decide +kernel
theorem d8_11 : decode jdk_42_method_80_code 11 = .ok (.iload_n 1, 1) := by decide +kernel
theorem d8_12 : decode jdk_42_method_80_code 12 = .ok (.iload_n 2, 1) := by decide +kernel
theorem d8_13 : decode jdk_42_method_80_code 13 = .ok (.aload_n 0, 1) := by decide +kernel
theorem d8_14 : decode jdk_42_method_80_code 14 = .ok (.invokevirtual 505, 3) := by decide +kernel
theorem pd4 : parseMethodDescriptor "()I" = some ⟨[], some .int⟩ := by decide +kernel
theorem d8_17 : decode jdk_42_method_80_code 17 = .ok (.invokestatic 637, 3) := by decide +kernel
theorem pd5 : parseMethodDescriptor "([BIII)I" = some ⟨[(.array .byte), .int, .int, .int], some .int⟩ := by decide +kernel
theorem d8_20 : decode jdk_42_method_80_code 20 = .ok (.goto 16, 3) := by decide +kernel
theorem d8_36 : decode jdk_42_method_80_code 36 = .ok (.ireturn, 1) := by decide +kernel
set_option maxRecDepth 65536 in
set_option maxHeartbeats 40000000 in
theorem m_ii0 (l : Launch) (Z : State) (a0 : Array Value) (hw : ∀ d ∈ tables_1, d.before a0 Z = true) (x t : Addr)  (zc : Int32) (O2 : Sta Z Z.heap "java/lang/String" "COMPACT_STRINGS" "Z" (.int zc)) (P5 : ¬ zc = 0) (h0 : Heap) (n0 : Nat) (ho : Old Z n0 h0) (F : Str Z h0 x t [])  :
    CN l (⟨"java/lang/String", "indexOf", "(II)I"⟩ : MethodName) jdk_42_method_80_code 3 (some .int) [] ({ frames := 2, cells := 0, slots := 0, locals := 60 } : Room) Z n0 h0 #[(.ref x), (.int (32 : Int32)), (.int (0 : Int32))] [] (fun v h => v = some (.int (idxL [] 0)) ∧ h = h0) := by
  refine CN.walk (plainFor_of_name pn0) ho (L0 := #[.val (.ref x), .val (.int (32 : Int32)), .val (.int (0 : Int32))]) (fun m => rfl) ?_
  intro pG e s m below meth cO T hlk hret hnm A0
  have K0 : Keep h0 h0 [] := Keep.refl _ _
  obtain ⟨kb25, fv25, fc25, av25⟩ := F.open ln
  have av25 : Arv Z h0 t kb25 .byte (0 : Int32) [] (.int 0) := av25
  refine f_aloadN A0 d8_0 (pc' := 1) rfl rfl rfl ?_
  refine f_callV A0 (a := x) d8_1 (pc' := 4) rfl (wd hw 43 rfl) (wd hw 44 rfl) (nfS A0 (wd hw 46 rfl)) (wd hw 46 rfl) (wd hw 45 rfl) (by decide) F.exa pd3 [] [] rfl rfl rfl 0 (Nat.le_of_eq rfl) (CN.pay (W := 0) A0 (m_isLat l Z a0 hw x zc O2 P5 h0 n0 A0.old fc25) (wd hw 47 rfl) (wd hw 9 rfl) (by decide) (by decide)) (kc := 0) (ks := 0) (by decide) (by decide) all0 (fun q => nomatch q) fun v26 T26 h26 L26 A26 K26 q26 => ?_
  obtain ⟨rfl, hh26⟩ := q26
  obtain rfl := hh26.symm
  show Wp pG e below _ T26 (mkF m 4 _ [(.int (1 : Int32))])
  refine f_ifN A26 d8_4 ((if0 _ _).trans (feq (by decide : ¬ (1 : Int32) = (0 : Int32))).1) (pc' := 7) rfl ?_
  refine f_aloadN A26 d8_7 (pc' := 8) rfl rfl rfl ?_
  refine f_getF A26 d8_8 (pc' := 11) rfl (host := "") (Or.inl (wd hw 27 rfl)) Via.refl fv25 fun T27 A27 => ?_
  refine f_iloadN A27 d8_11 (pc' := 12) rfl rfl ?_
  refine f_iloadN A27 d8_12 (pc' := 13) rfl rfl ?_
  refine f_aloadN A27 d8_13 (pc' := 14) rfl rfl rfl ?_
  refine f_callV A27 (a := x) d8_14 (pc' := 17) rfl (wd hw 49 rfl) (wd hw 50 rfl) (nfS A27 (wd hw 52 rfl)) (wd hw 52 rfl) (wd hw 51 rfl) (by decide) F.exa pd4 [] [(.int (0 : Int32)), (.int (32 : Int32)), (.ref t)] rfl rfl rfl 3 (Nat.le_of_eq rfl) (payLen (W := 3) A27 hw (wd hw 8 rfl) F O2 P5 (by decide) (by decide)) (kc := 0) (ks := 0) (by decide) (by decide) all0 (fun q => nomatch q) fun v28 T28 h28 L28 A28 K28 q28 => ?_
  obtain ⟨rfl, hh28⟩ := q28
  obtain rfl := hh28.symm
  show Wp pG e below _ T28 (mkF m 17 _ [(.int (0 : Int32)), (.int (0 : Int32)), (.int (32 : Int32)), (.ref t)])
  refine f_callS A28 d8_17 (pc' := 20) rfl (wd hw 59 rfl) (wd hw 60 rfl) (wd hw 61 rfl) (wd hw 62 rfl) (by decide) pd5 [(.ref t), (.int (32 : Int32)), (.int (0 : Int32)), (.int (0 : Int32))] [] rfl rfl rfl 0 (Nat.le_of_eq rfl) (CN.pay (W := 0) A28 (m_lio0 l Z a0 hw t kb25  h0 n0 A28.old av25 ) (wd hw 62 rfl) (wd hw 61 rfl) (by decide) (by decide)) (kc := 0) (ks := 0) (by decide) (by decide) all0 (fun q => nomatch q) fun v29 T29 h29 L29 A29 K29 q29 => ?_
  obtain ⟨rfl, hh29⟩ := q29
  obtain rfl := hh29.symm
  show Wp pG e below _ T29 (mkF m 20 _ [(.int (idxL [] 0))])
  refine f_goto A29 d8_20 (pc' := 36) (by decide) (by decide) ?_
  exact f_retIN A29 hlk hret d8_36 (by decide) (by decide) K0 ⟨rfl, rfl⟩
theorem d7_0 : decode jdk_42_method_79_code 0 = .ok (.aload_n 0, 1) := by decide +kernel
theorem d7_1 : decode jdk_42_method_79_code 1 = .ok (.iload_n 1, 1) := by decide +kernel
theorem d7_2 : decode jdk_42_method_79_code 2 = .ok (.iconst 0, 1) := by decide +kernel
theorem d7_3 : decode jdk_42_method_79_code 3 = .ok (.invokevirtual 633, 3) := by decide +kernel
theorem d7_6 : decode jdk_42_method_79_code 6 = .ok (.ireturn, 1) := by decide +kernel
set_option maxRecDepth 65536 in
set_option maxHeartbeats 40000000 in
theorem m_i0 (l : Launch) (Z : State) (a0 : Array Value) (hw : ∀ d ∈ tables_1, d.before a0 Z = true) (x t : Addr)  (zc : Int32) (O2 : Sta Z Z.heap "java/lang/String" "COMPACT_STRINGS" "Z" (.int zc)) (P5 : ¬ zc = 0) (h0 : Heap) (n0 : Nat) (ho : Old Z n0 h0) (F : Str Z h0 x t [])  :
    CN l (⟨"java/lang/String", "indexOf", "(I)I"⟩ : MethodName) jdk_42_method_79_code 2 (some .int) [] ({ frames := 3, cells := 0, slots := 0, locals := 80 } : Room) Z n0 h0 #[(.ref x), (.int (32 : Int32))] [] (fun v h => v = some (.int (idxL [] 0)) ∧ h = h0) := by
  refine CN.walk (plainFor_of_name pn0) ho (L0 := #[.val (.ref x), .val (.int (32 : Int32))]) (fun m => rfl) ?_
  intro pG e s m below meth cO T hlk hret hnm A0
  have K0 : Keep h0 h0 [] := Keep.refl _ _
  refine f_aloadN A0 d7_0 (pc' := 1) rfl rfl rfl ?_
  refine f_iloadN A0 d7_1 (pc' := 2) rfl rfl ?_
  refine f_iconst A0 d7_2 (pc' := 3) rfl 0 rfl ?_
  refine f_callV A0 (a := x) d7_3 (pc' := 6) rfl (wd hw 38 rfl) (wd hw 39 rfl) (nfS A0 (wd hw 41 rfl)) (wd hw 41 rfl) (wd hw 40 rfl) (by decide) F.exa pd2 [(.int (32 : Int32)), (.int (0 : Int32))] [] rfl rfl rfl 0 (Nat.le_of_eq rfl) (CN.pay (W := 0) A0 (m_ii0 l Z a0 hw x t  zc O2 P5 h0 n0 A0.old F ) (wd hw 42 rfl) (wd hw 9 rfl) (by decide) (by decide)) (kc := 0) (ks := 0) (by decide) (by decide) all0 (fun q => nomatch q) fun v30 T30 h30 L30 A30 K30 q30 => ?_
  obtain ⟨rfl, hh30⟩ := q30
  obtain rfl := hh30.symm
  show Wp pG e below _ T30 (mkF m 6 _ [(.int (idxL [] 0))])
  exact f_retIN A30 hlk hret d7_6 (by decide) (by decide) K0 ⟨rfl, rfl⟩
theorem pn2 : plainName "com/example/confinement/confinement/monitor/Sites" = true := by first | (simp [plainName, overriddenIn]; done) | decide +kernel
theorem d6_0 : decode prog_13_method_2_code 0 = .ok (.aload_n 0, 1) := by decide +kernel
theorem d6_1 : decode prog_13_method_2_code 1 = .ok (.bipush 32, 2) := by decide +kernel
theorem d6_3 : decode prog_13_method_2_code 3 = .ok (.invokevirtual 7, 3) := by decide +kernel
theorem pd6 : parseMethodDescriptor "(I)I" = some ⟨[.int], some .int⟩ := by decide +kernel
theorem d6_6 : decode prog_13_method_2_code 6 = .ok (.ifCond .le 7, 3) := by decide +kernel
theorem d6_9 : decode prog_13_method_2_code 9 = .ok (.iconst 1, 1) := by decide +kernel
theorem d6_10 : decode prog_13_method_2_code 10 = .ok (.goto 4, 3) := by decide +kernel
theorem d6_14 : decode prog_13_method_2_code 14 = .ok (.ireturn, 1) := by decide +kernel
theorem d6_13 : decode prog_13_method_2_code 13 = .ok (.iconst 0, 1) := by decide +kernel
set_option maxRecDepth 65536 in
set_option maxHeartbeats 40000000 in
theorem m_fam0 (l : Launch) (Z : State) (a0 : Array Value) (hw : ∀ d ∈ tables_1, d.before a0 Z = true) (x t : Addr)  (zc : Int32) (O2 : Sta Z Z.heap "java/lang/String" "COMPACT_STRINGS" "Z" (.int zc)) (P5 : ¬ zc = 0) (r : Int32) (h0 : Heap) (n0 : Nat) (ho : Old Z n0 h0) (F : Str Z h0 x t [])  (hr : (if 0 < idxL [] 0 then 1 else 0) = r) :
    CN l (⟨"com/example/confinement/confinement/monitor/Sites", "isFamily", "(Ljava/lang/String;)Z"⟩ : MethodName) prog_13_method_2_code 1 (some .boolean) [] ({ frames := 4, cells := 0, slots := 0, locals := 100 } : Room) Z n0 h0 #[(.ref x)] [] (fun v h => v = some (.int r) ∧ h = h0) := by
  refine CN.walk (plainFor_of_name pn2) ho (L0 := #[.val (.ref x)]) (fun m => rfl) ?_
  intro pG e s m below meth cO T hlk hret hnm A0
  have K0 : Keep h0 h0 [] := Keep.refl _ _
  refine f_aloadN A0 d6_0 (pc' := 1) rfl rfl rfl ?_
  refine f_bipush A0 d6_1 (pc' := 3) rfl 32 rfl ?_
  refine f_callV A0 (a := x) d6_3 (pc' := 6) rfl (wd hw 33 rfl) (wd hw 34 rfl) (nfS A0 (wd hw 36 rfl)) (wd hw 36 rfl) (wd hw 35 rfl) (by decide) F.exa pd6 [(.int (32 : Int32))] [] rfl rfl rfl 0 (Nat.le_of_eq rfl) (CN.pay (W := 0) A0 (m_i0 l Z a0 hw x t  zc O2 P5 h0 n0 A0.old F ) (wd hw 37 rfl) (wd hw 9 rfl) (by decide) (by decide)) (kc := 0) (ks := 0) (by decide) (by decide) all0 (fun q => nomatch q) fun v31 T31 h31 L31 A31 K31 q31 => ?_
  obtain ⟨rfl, hh31⟩ := q31
  obtain rfl := hh31.symm
  show Wp pG e below _ T31 (mkF m 6 _ [(.int (idxL [] 0))])
  by_cases q : (0 : Int32) < (idxL [] 0)
  · refine f_ifN A31 d6_6 ((if0 _ _).trans (tlt q).2.2.2) (pc' := 9) rfl ?_
    refine f_iconst A31 d6_9 (pc' := 10) rfl 1 rfl ?_
    refine f_goto A31 d6_10 (pc' := 14) (by decide) (by decide) ?_
    exact f_retBN A31 hlk hret d6_14 (by decide) (1 : Int32) (by decide) (by decide) (by decide) K0 ⟨by rw [← hr, if_pos q], rfl⟩
  · refine f_ifY A31 d6_6 ((if0 _ _).trans (flt q).2.2.2) (pc' := 13) (by decide) (by decide) ?_
    refine f_iconst A31 d6_13 (pc' := 14) rfl 0 rfl ?_
    exact f_retBN A31 hlk hret d6_14 (by decide) (0 : Int32) (by decide) (by decide) (by decide) K0 ⟨by rw [← hr, if_neg q], rfl⟩
theorem pn3 : plainName "com/example/confinement/confinement/monitor/SitesIsFamilyPinLaw" = true := by first | (simp [plainName, overriddenIn]; done) | decide +kernel
theorem d2_0 : decode method_3_code 0 = .ok (.iload_n 0, 1) := by decide +kernel
theorem d2_1 : decode method_3_code 1 = .ok (.ifCond .ne 14, 3) := by decide +kernel
theorem d2_4 : decode method_3_code 4 = .ok (.new 7, 3) := by decide +kernel
theorem d2_7 : decode method_3_code 7 = .ok (.dup, 1) := by decide +kernel
theorem d2_8 : decode method_3_code 8 = .ok (.iconst 0, 1) := by decide +kernel
theorem d2_9 : decode method_3_code 9 = .ok (.newarray .char, 2) := by decide +kernel
theorem d2_11 : decode method_3_code 11 = .ok (.invokespecial 9, 3) := by decide +kernel
theorem pd7 : parseMethodDescriptor "([C)V" = some ⟨[(.array .char)], none⟩ := by decide +kernel
theorem d2_14 : decode method_3_code 14 = .ok (.areturn, 1) := by decide +kernel
set_option maxRecDepth 65536 in
set_option maxHeartbeats 40000000 in
theorem m_make0 (l : Launch) (Z : State) (a0 : Array Value) (hw : ∀ d ∈ tables_1, d.before a0 Z = true) (c0 c1 c2 c3 c4 : Int32) (zc : Int32) (O2 : Sta Z Z.heap "java/lang/String" "COMPACT_STRINGS" "Z" (.int zc)) (P5 : ¬ zc = 0) (h0 : Heap) (n0 : Nat) (ho : Old Z n0 h0) (hEL : EW Z a0 ELs) (r0 : ¬ c0 < 0 ∧ ¬ (255 : Int32) < c0) (r1 : ¬ c1 < 0 ∧ ¬ (255 : Int32) < c1) (r2 : ¬ c2 < 0 ∧ ¬ (255 : Int32) < c2) (r3 : ¬ c3 < 0 ∧ ¬ (255 : Int32) < c3) (r4 : ¬ c4 < 0 ∧ ¬ (255 : Int32) < c4) :
    CW l (⟨"com/example/confinement/confinement/monitor/SitesIsFamilyPinLaw", "make", "(ICCCCC)Ljava/lang/String;"⟩ : MethodName) method_3_code 6 (some (.object "java/lang/String")) [] ({ frames := 5, cells := 5, slots := 20, locals := 90 } : Room) Z ELs [] n0 h0 #[(.int (0 : Int32)), (.int c0), (.int c1), (.int c2), (.int c3), (.int c4)] [] (fun v h => ∃ (x t : Addr), v = some (.ref x) ∧ h0.size ≤ x ∧ Str Z h x t []) := by
  refine CW.walk (plainFor_of_name pn3) ho (L0 := #[.val (.int (0 : Int32)), .val (.int c0), .val (.int c1), .val (.int c2), .val (.int c3), .val (.int c4)]) (fun m => rfl) ?_
  intro pG e s m below meth cO T hlk hret hnm hSL A0
  have K0 : Keep h0 h0 [] := Keep.refl _ _
  refine f_iloadN A0 d2_0 (pc' := 1) rfl rfl ?_
  refine f_ifN A0 d2_1 ((if0 _ _).trans (teq (by decide : (0 : Int32) = (0 : Int32))).2) (pc' := 4) rfl ?_
  refine f_new A0 d2_4 (pc' := 7) rfl (wd hw 7 rfl) (wd hw 8 rfl) (wd hw 9 rfl) (by decide) (by decide) fun a32 T32 h32 g32 A32 E32 X32 D32 => ?_
  have z32 : n0 ≤ a32 := Nat.le_trans A0.sz (Nat.le_of_eq g32.symm)
  have y32 : h0.size ≤ a32 := Nat.le_trans K0.1 (Nat.le_of_eq g32.symm)
  have Q33 : Keep h0 h32 [] := K0.ext E32
  have s32 := Safe.ext E32 (A0.ch rfl).1 (Safe.new (Nat.le_of_eq g32.symm))
  refine f_dup A32 d2_7 (pc' := 8) rfl rfl ?_
  refine f_iconst A32 d2_8 (pc' := 9) rfl 0 rfl ?_
  refine f_newP A32 0 d2_9 (pc' := 11) rfl (wd hw 10 rfl) (by decide) (by decide) (by decide) (by decide) (by decide) (ad := "[C") (by decide) fun a34 T34 h34 k34 g34 A34 E34 F34 X34 => ?_
  have z34 : n0 ≤ a34 := Nat.le_trans A32.sz (Nat.le_of_eq g34.symm)
  have y34 : h0.size ≤ a34 := Nat.le_trans Q33.1 (Nat.le_of_eq g34.symm)
  have Q35 : Keep h0 h34 [] := Q33.ext E34
  have V34 := F34
  have c36 := (X32.ext E34)
  have c37 := ((show Fld Z h32 a32 "java/lang/String" "value" "[B" .null from D32 (Or.inr (wd hw 23 rfl)) (ty := (.array .byte)) (by decide)).ext E34)
  have c38 := ((show Fld Z h32 a32 "java/lang/String" "coder" "B" (.int (0 : Int32)) from D32 (Or.inr (wd hw 24 rfl)) (ty := .byte) (by decide)).ext E34)
  have c40 := (Safe.ext E34 (A32.ch rfl).1 s32)
  refine f_callIW A34 (a := a32) d2_11 (pc' := 14) rfl rfl (wd hw 11 rfl) (wd hw 12 rfl) (wd hw 13 rfl) (by decide) pd7 [(.ref a34)] [(.ref a32)] rfl rfl rfl 1 (Nat.le_of_eq rfl) (CW.pay (W := 1) A34 hEL (m_new1E l Z a0 hw a32 a34 k34 [] h34 n0 A34.old hEL c36 c37 c38 z32 V34) (wd hw 13 rfl) (wd hw 9 rfl) (by decide) (by decide) (allS ⟨(Nat.lt_of_lt_of_le X32.lt E34.1), c40⟩ all0)) (kc := 2) (ks := 4) (by decide) (by decide) (allS z32 all0) fun v39 vm39 T39 h39 L39 A39 K39 C39 q39 => ?_
  have Q41 : Keep h0 h39 [] := Q35.trans K39 (allS (Or.inr y32) all0)
  obtain ⟨rfl, t39, G39⟩ := q39
  show Wp pG e below _ T39 (mkF m 14 _ [(.ref a32)])
  exact f_retRW A39 hEL hlk hret d2_14 rfl rfl (by decide) (by decide) Q41 ⟨a32, t39, rfl, y32, G39⟩
theorem d19_0 : decode jdk_43_method_23_code 0 = .ok (.iload_n 1, 1) := by decide +kernel
theorem d19_1 : decode jdk_43_method_23_code 1 = .ok (.i2b, 1) := by decide +kernel
theorem d19_2 : decode jdk_43_method_23_code 2 = .ok (.istore 4, 2) := by decide +kernel
theorem d19_4 : decode jdk_43_method_23_code 4 = .ok (.iload_n 2, 1) := by decide +kernel
theorem d19_5 : decode jdk_43_method_23_code 5 = .ok (.istore 5, 2) := by decide +kernel
theorem d19_7 : decode jdk_43_method_23_code 7 = .ok (.iload 5, 2) := by decide +kernel
theorem d19_9 : decode jdk_43_method_23_code 9 = .ok (.iload_n 3, 1) := by decide +kernel
theorem d19_10 : decode jdk_43_method_23_code 10 = .ok (.if_icmp .ge 21, 3) := by decide +kernel
theorem d19_13 : decode jdk_43_method_23_code 13 = .ok (.aload_n 0, 1) := by decide +kernel
theorem d19_14 : decode jdk_43_method_23_code 14 = .ok (.iload 5, 2) := by decide +kernel
theorem d19_16 : decode jdk_43_method_23_code 16 = .ok (.baload, 1) := by decide +kernel
theorem d19_17 : decode jdk_43_method_23_code 17 = .ok (.iload 4, 2) := by decide +kernel
theorem d19_19 : decode jdk_43_method_23_code 19 = .ok (.if_icmp .ne 6, 3) := by decide +kernel
theorem d19_22 : decode jdk_43_method_23_code 22 = .ok (.iload 5, 2) := by decide +kernel
theorem d19_24 : decode jdk_43_method_23_code 24 = .ok (.ireturn, 1) := by decide +kernel
theorem d19_25 : decode jdk_43_method_23_code 25 = .ok (.iinc 5 1, 3) := by decide +kernel
theorem d19_28 : decode jdk_43_method_23_code 28 = .ok (.goto (-21), 3) := by decide +kernel
theorem d19_31 : decode jdk_43_method_23_code 31 = .ok (.iconst (-1), 1) := by decide +kernel
theorem d19_32 : decode jdk_43_method_23_code 32 = .ok (.ireturn, 1) := by decide +kernel
set_option maxRecDepth 65536 in
set_option maxHeartbeats 40000000 in
theorem m_ioc1 (l : Launch) (Z : State) (a0 : Array Value) (hw : ∀ d ∈ tables_1, d.before a0 Z = true) (t : Addr) (kb : ClassId) (c0 : Int32) (h0 : Heap) (n0 : Nat) (ho : Old Z n0 h0) (V : Arv Z h0 t kb .byte 1 [(.int (StrChars.lo8 c0))] (.int 0)) (r0 : ¬ c0 < 0 ∧ ¬ (255 : Int32) < c0) :
    CN l (⟨"java/lang/StringLatin1", "indexOfChar", "([BIII)I"⟩ : MethodName) jdk_43_method_23_code 6 (some .int) [] ({ frames := 0, cells := 0, slots := 0, locals := 0 } : Room) Z n0 h0 #[(.ref t), (.int (32 : Int32)), (.int (0 : Int32)), (.int (1 : Int32))] [] (fun v h => v = some (.int (idxL [c0] 0)) ∧ h = h0) := by
  refine CN.walk (plainFor_of_name pn1) ho (L0 := #[.val (.ref t), .val (.int (32 : Int32)), .val (.int (0 : Int32)), .val (.int (1 : Int32)), .unset, .unset]) (fun m => rfl) ?_
  intro pG e s m below meth cO T hlk hret hnm A0
  have K0 : Keep h0 h0 [] := Keep.refl _ _
  refine f_iloadN A0 d19_0 (pc' := 1) rfl rfl ?_
  refine f_i2b A0 d19_1 (pc' := 2) rfl (32 : Int32) (by decide) ?_
  refine f_istore A0 d19_2 (pc' := 4) rfl (L' := #[.val (.ref t), .val (.int (32 : Int32)), .val (.int (0 : Int32)), .val (.int (1 : Int32)), .val (.int (32 : Int32)), .unset]) rfl ?_
  refine f_iloadN A0 d19_4 (pc' := 5) rfl rfl ?_
  refine f_istore A0 d19_5 (pc' := 7) rfl (L' := #[.val (.ref t), .val (.int (32 : Int32)), .val (.int (0 : Int32)), .val (.int (1 : Int32)), .val (.int (32 : Int32)), .val (.int (0 : Int32))]) rfl ?_
  refine f_iload A0 d19_7 (pc' := 9) rfl rfl ?_
  refine f_iloadN A0 d19_9 (pc' := 10) rfl rfl ?_
  refine f_icN A0 d19_10 (tlt (by decide : (0 : Int32) < (1 : Int32))).2.1 (pc' := 13) rfl ?_
  refine f_aloadN A0 d19_13 (pc' := 14) rfl rfl rfl ?_
  refine f_iload A0 d19_14 (pc' := 16) rfl rfl ?_
  refine f_baload A0 d19_16 (pc' := 17) rfl V ⟨by decide, by decide⟩ rfl ?_
  refine f_iload A0 d19_17 (pc' := 19) rfl rfl ?_
  by_cases q0 : c0 = 32
  · refine f_icN A0 d19_19 (teq ((lo32 r0).mpr q0)).2 (pc' := 22) rfl ?_
    refine f_iload A0 d19_22 (pc' := 24) rfl rfl ?_
    exact f_retIN A0 hlk hret d19_24 (by decide) (by decide) K0 ⟨by simp [idxL, q0], rfl⟩
  · refine f_icY A0 d19_19 (feq (fun q => q0 ((lo32 r0).mp q))).2 (pc' := 25) (by decide) (by decide) ?_
    refine f_iinc A0 d19_25 (pc' := 28) rfl rfl (1 : Int32) (by decide) (L' := #[.val (.ref t), .val (.int (32 : Int32)), .val (.int (0 : Int32)), .val (.int (1 : Int32)), .val (.int (32 : Int32)), .val (.int (1 : Int32))]) rfl ?_
    refine f_goto A0 d19_28 (pc' := 7) (by decide) (by decide) ?_
    refine f_iload A0 d19_7 (pc' := 9) rfl rfl ?_
    refine f_iloadN A0 d19_9 (pc' := 10) rfl rfl ?_
    refine f_icY A0 d19_10 (flt (by decide : ¬ (1 : Int32) < (1 : Int32))).2.1 (pc' := 31) (by decide) (by decide) ?_
    refine f_iconst A0 d19_31 (pc' := 32) rfl (-1) rfl ?_
    exact f_retIN A0 hlk hret d19_32 (by decide) (by decide) K0 ⟨by simp [idxL, q0], rfl⟩
theorem d12_29 : decode jdk_43_method_22_code 29 = .ok (.aload_n 0, 1) := by decide +kernel
theorem d12_30 : decode jdk_43_method_22_code 30 = .ok (.iload_n 1, 1) := by decide +kernel
theorem d12_31 : decode jdk_43_method_22_code 31 = .ok (.iload_n 2, 1) := by decide +kernel
theorem d12_32 : decode jdk_43_method_22_code 32 = .ok (.iload_n 3, 1) := by decide +kernel
theorem d12_33 : decode jdk_43_method_22_code 33 = .ok (.invokestatic 95, 3) := by decide +kernel
theorem d12_36 : decode jdk_43_method_22_code 36 = .ok (.ireturn, 1) := by decide +kernel
set_option maxRecDepth 65536 in
set_option maxHeartbeats 40000000 in
theorem m_lio1 (l : Launch) (Z : State) (a0 : Array Value) (hw : ∀ d ∈ tables_1, d.before a0 Z = true) (t : Addr) (kb : ClassId) (c0 : Int32) (h0 : Heap) (n0 : Nat) (ho : Old Z n0 h0) (V : Arv Z h0 t kb .byte 1 [(.int (StrChars.lo8 c0))] (.int 0)) (r0 : ¬ c0 < 0 ∧ ¬ (255 : Int32) < c0) :
    CN l (⟨"java/lang/StringLatin1", "indexOf", "([BIII)I"⟩ : MethodName) jdk_43_method_22_code 4 (some .int) [] ({ frames := 1, cells := 0, slots := 0, locals := 30 } : Room) Z n0 h0 #[(.ref t), (.int (32 : Int32)), (.int (0 : Int32)), (.int (1 : Int32))] [] (fun v h => v = some (.int (idxL [c0] 0)) ∧ h = h0) := by
  refine CN.walk (plainFor_of_name pn1) ho (L0 := #[.val (.ref t), .val (.int (32 : Int32)), .val (.int (0 : Int32)), .val (.int (1 : Int32))]) (fun m => rfl) ?_
  intro pG e s m below meth cO T hlk hret hnm A0
  have K0 : Keep h0 h0 [] := Keep.refl _ _
  refine f_iloadN A0 d12_0 (pc' := 1) rfl rfl ?_
  refine f_callS A0 d12_1 (pc' := 4) rfl (wd hw 63 rfl) (wd hw 64 rfl) (wd hw 61 rfl) (wd hw 65 rfl) (by decide) pd1 [(.int (32 : Int32))] [] rfl rfl rfl 0 (Nat.le_of_eq rfl) (CN.pay (W := 0) A0 (m_can l Z a0 hw h0 n0 A0.old) (wd hw 65 rfl) (wd hw 61 rfl) (by decide) (by decide)) (kc := 0) (ks := 0) (by decide) (by decide) all0 (fun q => nomatch q) fun v42 T42 h42 L42 A42 K42 q42 => ?_
  obtain ⟨rfl, hh42⟩ := q42
  obtain rfl := hh42.symm
  show Wp pG e below _ T42 (mkF m 4 _ [(.int (1 : Int32))])
  refine f_ifY A42 d12_4 ((if0 _ _).trans (feq (by decide : ¬ (1 : Int32) = (0 : Int32))).2) (pc' := 9) (by decide) (by decide) ?_
  refine f_iloadN A42 d12_9 (pc' := 10) rfl rfl ?_
  refine f_iconst A42 d12_10 (pc' := 11) rfl 0 rfl ?_
  refine f_callS A42 d12_11 (pc' := 14) rfl (wd hw 66 rfl) (wd hw 67 rfl) (wd hw 68 rfl) (wd hw 69 rfl) (by decide) pd2 [(.int (0 : Int32)), (.int (0 : Int32))] [] rfl rfl rfl 0 (Nat.le_of_eq rfl) (CN.pay (W := 0) A42 (m_max l Z a0 hw (0 : Int32) (0 : Int32) h0 n0 A42.old) (wd hw 69 rfl) (wd hw 68 rfl) (by decide) (by decide)) (kc := 0) (ks := 0) (by decide) (by decide) all0 (fun q => nomatch q) fun v43 T43 h43 L43 A43 K43 q43 => ?_
  obtain ⟨e43, hh43⟩ := q43
  obtain rfl := hh43.symm
  rw [if_neg (by decide)] at e43
  subst e43
  show Wp pG e below _ T43 (mkF m 14 _ [(.int (0 : Int32))])
  refine f_istoreN A43 d12_14 (pc' := 15) rfl (L' := #[.val (.ref t), .val (.int (32 : Int32)), .val (.int (0 : Int32)), .val (.int (1 : Int32))]) rfl ?_
  refine f_iloadN A43 d12_15 (pc' := 16) rfl rfl ?_
  refine f_aloadN A43 d12_16 (pc' := 17) rfl rfl rfl ?_
  refine f_arraylength A43 d12_17 (pc' := 18) rfl V ?_
  refine f_callS A43 d12_18 (pc' := 21) rfl (wd hw 70 rfl) (wd hw 71 rfl) (wd hw 68 rfl) (wd hw 72 rfl) (by decide) pd2 [(.int (1 : Int32)), (.int (1 : Int32))] [] rfl rfl rfl 0 (Nat.le_of_eq rfl) (CN.pay (W := 0) A43 (m_min l Z a0 hw (1 : Int32) (1 : Int32) h0 n0 A43.old) (wd hw 72 rfl) (wd hw 68 rfl) (by decide) (by decide)) (kc := 0) (ks := 0) (by decide) (by decide) all0 (fun q => nomatch q) fun v44 T44 h44 L44 A44 K44 q44 => ?_
  obtain ⟨e44, hh44⟩ := q44
  obtain rfl := hh44.symm
  rw [if_neg (by decide)] at e44
  subst e44
  show Wp pG e below _ T44 (mkF m 21 _ [(.int (1 : Int32))])
  refine f_istoreN A44 d12_21 (pc' := 22) rfl (L' := #[.val (.ref t), .val (.int (32 : Int32)), .val (.int (0 : Int32)), .val (.int (1 : Int32))]) rfl ?_
  refine f_iloadN A44 d12_22 (pc' := 23) rfl rfl ?_
  refine f_iloadN A44 d12_23 (pc' := 24) rfl rfl ?_
  refine f_icY A44 d12_24 (tlt (by decide : (0 : Int32) < (1 : Int32))).1 (pc' := 29) (by decide) (by decide) ?_
  refine f_aloadN A44 d12_29 (pc' := 30) rfl rfl rfl ?_
  refine f_iloadN A44 d12_30 (pc' := 31) rfl rfl ?_
  refine f_iloadN A44 d12_31 (pc' := 32) rfl rfl ?_
  refine f_iloadN A44 d12_32 (pc' := 33) rfl rfl ?_
  refine f_callS A44 d12_33 (pc' := 36) rfl (wd hw 83 rfl) (wd hw 84 rfl) (wd hw 61 rfl) (wd hw 85 rfl) (by decide) pd5 [(.ref t), (.int (32 : Int32)), (.int (0 : Int32)), (.int (1 : Int32))] [] rfl rfl rfl 0 (Nat.le_of_eq rfl) (CN.pay (W := 0) A44 (m_ioc1 l Z a0 hw t kb c0 h0 n0 A44.old V r0) (wd hw 85 rfl) (wd hw 61 rfl) (by decide) (by decide)) (kc := 0) (ks := 0) (by decide) (by decide) all0 (fun q => nomatch q) fun v45 T45 h45 L45 A45 K45 q45 => ?_
  obtain ⟨rfl, hh45⟩ := q45
  obtain rfl := hh45.symm
  show Wp pG e below _ T45 (mkF m 36 _ [(.int (idxL [c0] 0))])
  exact f_retIN A45 hlk hret d12_36 (by decide) (by decide) K0 ⟨rfl, rfl⟩
set_option maxRecDepth 65536 in
set_option maxHeartbeats 40000000 in
theorem m_ii1 (l : Launch) (Z : State) (a0 : Array Value) (hw : ∀ d ∈ tables_1, d.before a0 Z = true) (x t : Addr) (c0 : Int32) (zc : Int32) (O2 : Sta Z Z.heap "java/lang/String" "COMPACT_STRINGS" "Z" (.int zc)) (P5 : ¬ zc = 0) (h0 : Heap) (n0 : Nat) (ho : Old Z n0 h0) (F : Str Z h0 x t [c0]) (r0 : ¬ c0 < 0 ∧ ¬ (255 : Int32) < c0) :
    CN l (⟨"java/lang/String", "indexOf", "(II)I"⟩ : MethodName) jdk_42_method_80_code 3 (some .int) [] ({ frames := 2, cells := 0, slots := 0, locals := 60 } : Room) Z n0 h0 #[(.ref x), (.int (32 : Int32)), (.int (0 : Int32))] [] (fun v h => v = some (.int (idxL [c0] 0)) ∧ h = h0) := by
  refine CN.walk (plainFor_of_name pn0) ho (L0 := #[.val (.ref x), .val (.int (32 : Int32)), .val (.int (0 : Int32))]) (fun m => rfl) ?_
  intro pG e s m below meth cO T hlk hret hnm A0
  have K0 : Keep h0 h0 [] := Keep.refl _ _
  obtain ⟨kb46, fv46, fc46, av46⟩ := F.open (lc r0.2 ln)
  have av46 : Arv Z h0 t kb46 .byte (1 : Int32) [(.int (StrChars.lo8 c0))] (.int 0) := av46
  refine f_aloadN A0 d8_0 (pc' := 1) rfl rfl rfl ?_
  refine f_callV A0 (a := x) d8_1 (pc' := 4) rfl (wd hw 43 rfl) (wd hw 44 rfl) (nfS A0 (wd hw 46 rfl)) (wd hw 46 rfl) (wd hw 45 rfl) (by decide) F.exa pd3 [] [] rfl rfl rfl 0 (Nat.le_of_eq rfl) (CN.pay (W := 0) A0 (m_isLat l Z a0 hw x zc O2 P5 h0 n0 A0.old fc46) (wd hw 47 rfl) (wd hw 9 rfl) (by decide) (by decide)) (kc := 0) (ks := 0) (by decide) (by decide) all0 (fun q => nomatch q) fun v47 T47 h47 L47 A47 K47 q47 => ?_
  obtain ⟨rfl, hh47⟩ := q47
  obtain rfl := hh47.symm
  show Wp pG e below _ T47 (mkF m 4 _ [(.int (1 : Int32))])
  refine f_ifN A47 d8_4 ((if0 _ _).trans (feq (by decide : ¬ (1 : Int32) = (0 : Int32))).1) (pc' := 7) rfl ?_
  refine f_aloadN A47 d8_7 (pc' := 8) rfl rfl rfl ?_
  refine f_getF A47 d8_8 (pc' := 11) rfl (host := "") (Or.inl (wd hw 27 rfl)) Via.refl fv46 fun T48 A48 => ?_
  refine f_iloadN A48 d8_11 (pc' := 12) rfl rfl ?_
  refine f_iloadN A48 d8_12 (pc' := 13) rfl rfl ?_
  refine f_aloadN A48 d8_13 (pc' := 14) rfl rfl rfl ?_
  refine f_callV A48 (a := x) d8_14 (pc' := 17) rfl (wd hw 49 rfl) (wd hw 50 rfl) (nfS A48 (wd hw 52 rfl)) (wd hw 52 rfl) (wd hw 51 rfl) (by decide) F.exa pd4 [] [(.int (0 : Int32)), (.int (32 : Int32)), (.ref t)] rfl rfl rfl 3 (Nat.le_of_eq rfl) (payLen (W := 3) A48 hw (wd hw 8 rfl) F O2 P5 (by decide) (by decide)) (kc := 0) (ks := 0) (by decide) (by decide) all0 (fun q => nomatch q) fun v49 T49 h49 L49 A49 K49 q49 => ?_
  obtain ⟨rfl, hh49⟩ := q49
  obtain rfl := hh49.symm
  show Wp pG e below _ T49 (mkF m 17 _ [(.int (1 : Int32)), (.int (0 : Int32)), (.int (32 : Int32)), (.ref t)])
  refine f_callS A49 d8_17 (pc' := 20) rfl (wd hw 59 rfl) (wd hw 60 rfl) (wd hw 61 rfl) (wd hw 62 rfl) (by decide) pd5 [(.ref t), (.int (32 : Int32)), (.int (0 : Int32)), (.int (1 : Int32))] [] rfl rfl rfl 0 (Nat.le_of_eq rfl) (CN.pay (W := 0) A49 (m_lio1 l Z a0 hw t kb46 c0 h0 n0 A49.old av46 r0) (wd hw 62 rfl) (wd hw 61 rfl) (by decide) (by decide)) (kc := 0) (ks := 0) (by decide) (by decide) all0 (fun q => nomatch q) fun v50 T50 h50 L50 A50 K50 q50 => ?_
  obtain ⟨rfl, hh50⟩ := q50
  obtain rfl := hh50.symm
  show Wp pG e below _ T50 (mkF m 20 _ [(.int (idxL [c0] 0))])
  refine f_goto A50 d8_20 (pc' := 36) (by decide) (by decide) ?_
  exact f_retIN A50 hlk hret d8_36 (by decide) (by decide) K0 ⟨rfl, rfl⟩
set_option maxRecDepth 65536 in
set_option maxHeartbeats 40000000 in
theorem m_i1 (l : Launch) (Z : State) (a0 : Array Value) (hw : ∀ d ∈ tables_1, d.before a0 Z = true) (x t : Addr) (c0 : Int32) (zc : Int32) (O2 : Sta Z Z.heap "java/lang/String" "COMPACT_STRINGS" "Z" (.int zc)) (P5 : ¬ zc = 0) (h0 : Heap) (n0 : Nat) (ho : Old Z n0 h0) (F : Str Z h0 x t [c0]) (r0 : ¬ c0 < 0 ∧ ¬ (255 : Int32) < c0) :
    CN l (⟨"java/lang/String", "indexOf", "(I)I"⟩ : MethodName) jdk_42_method_79_code 2 (some .int) [] ({ frames := 3, cells := 0, slots := 0, locals := 80 } : Room) Z n0 h0 #[(.ref x), (.int (32 : Int32))] [] (fun v h => v = some (.int (idxL [c0] 0)) ∧ h = h0) := by
  refine CN.walk (plainFor_of_name pn0) ho (L0 := #[.val (.ref x), .val (.int (32 : Int32))]) (fun m => rfl) ?_
  intro pG e s m below meth cO T hlk hret hnm A0
  have K0 : Keep h0 h0 [] := Keep.refl _ _
  refine f_aloadN A0 d7_0 (pc' := 1) rfl rfl rfl ?_
  refine f_iloadN A0 d7_1 (pc' := 2) rfl rfl ?_
  refine f_iconst A0 d7_2 (pc' := 3) rfl 0 rfl ?_
  refine f_callV A0 (a := x) d7_3 (pc' := 6) rfl (wd hw 38 rfl) (wd hw 39 rfl) (nfS A0 (wd hw 41 rfl)) (wd hw 41 rfl) (wd hw 40 rfl) (by decide) F.exa pd2 [(.int (32 : Int32)), (.int (0 : Int32))] [] rfl rfl rfl 0 (Nat.le_of_eq rfl) (CN.pay (W := 0) A0 (m_ii1 l Z a0 hw x t c0 zc O2 P5 h0 n0 A0.old F r0) (wd hw 42 rfl) (wd hw 9 rfl) (by decide) (by decide)) (kc := 0) (ks := 0) (by decide) (by decide) all0 (fun q => nomatch q) fun v51 T51 h51 L51 A51 K51 q51 => ?_
  obtain ⟨rfl, hh51⟩ := q51
  obtain rfl := hh51.symm
  show Wp pG e below _ T51 (mkF m 6 _ [(.int (idxL [c0] 0))])
  exact f_retIN A51 hlk hret d7_6 (by decide) (by decide) K0 ⟨rfl, rfl⟩
set_option maxRecDepth 65536 in
set_option maxHeartbeats 40000000 in
theorem m_fam1 (l : Launch) (Z : State) (a0 : Array Value) (hw : ∀ d ∈ tables_1, d.before a0 Z = true) (x t : Addr) (c0 : Int32) (zc : Int32) (O2 : Sta Z Z.heap "java/lang/String" "COMPACT_STRINGS" "Z" (.int zc)) (P5 : ¬ zc = 0) (r : Int32) (h0 : Heap) (n0 : Nat) (ho : Old Z n0 h0) (F : Str Z h0 x t [c0]) (r0 : ¬ c0 < 0 ∧ ¬ (255 : Int32) < c0) (hr : (if 0 < idxL [c0] 0 then 1 else 0) = r) :
    CN l (⟨"com/example/confinement/confinement/monitor/Sites", "isFamily", "(Ljava/lang/String;)Z"⟩ : MethodName) prog_13_method_2_code 1 (some .boolean) [] ({ frames := 4, cells := 0, slots := 0, locals := 100 } : Room) Z n0 h0 #[(.ref x)] [] (fun v h => v = some (.int r) ∧ h = h0) := by
  refine CN.walk (plainFor_of_name pn2) ho (L0 := #[.val (.ref x)]) (fun m => rfl) ?_
  intro pG e s m below meth cO T hlk hret hnm A0
  have K0 : Keep h0 h0 [] := Keep.refl _ _
  refine f_aloadN A0 d6_0 (pc' := 1) rfl rfl rfl ?_
  refine f_bipush A0 d6_1 (pc' := 3) rfl 32 rfl ?_
  refine f_callV A0 (a := x) d6_3 (pc' := 6) rfl (wd hw 33 rfl) (wd hw 34 rfl) (nfS A0 (wd hw 36 rfl)) (wd hw 36 rfl) (wd hw 35 rfl) (by decide) F.exa pd6 [(.int (32 : Int32))] [] rfl rfl rfl 0 (Nat.le_of_eq rfl) (CN.pay (W := 0) A0 (m_i1 l Z a0 hw x t c0 zc O2 P5 h0 n0 A0.old F r0) (wd hw 37 rfl) (wd hw 9 rfl) (by decide) (by decide)) (kc := 0) (ks := 0) (by decide) (by decide) all0 (fun q => nomatch q) fun v52 T52 h52 L52 A52 K52 q52 => ?_
  obtain ⟨rfl, hh52⟩ := q52
  obtain rfl := hh52.symm
  show Wp pG e below _ T52 (mkF m 6 _ [(.int (idxL [c0] 0))])
  by_cases q : (0 : Int32) < (idxL [c0] 0)
  · refine f_ifN A52 d6_6 ((if0 _ _).trans (tlt q).2.2.2) (pc' := 9) rfl ?_
    refine f_iconst A52 d6_9 (pc' := 10) rfl 1 rfl ?_
    refine f_goto A52 d6_10 (pc' := 14) (by decide) (by decide) ?_
    exact f_retBN A52 hlk hret d6_14 (by decide) (1 : Int32) (by decide) (by decide) (by decide) K0 ⟨by rw [← hr, if_pos q], rfl⟩
  · refine f_ifY A52 d6_6 ((if0 _ _).trans (flt q).2.2.2) (pc' := 13) (by decide) (by decide) ?_
    refine f_iconst A52 d6_13 (pc' := 14) rfl 0 rfl ?_
    exact f_retBN A52 hlk hret d6_14 (by decide) (0 : Int32) (by decide) (by decide) (by decide) K0 ⟨by rw [← hr, if_neg q], rfl⟩
theorem d2_15 : decode method_3_code 15 = .ok (.iload_n 0, 1) := by decide +kernel
theorem d2_16 : decode method_3_code 16 = .ok (.iconst 1, 1) := by decide +kernel
theorem d2_17 : decode method_3_code 17 = .ok (.if_icmp .ne 18, 3) := by decide +kernel
theorem d2_20 : decode method_3_code 20 = .ok (.new 7, 3) := by decide +kernel
theorem d2_23 : decode method_3_code 23 = .ok (.dup, 1) := by decide +kernel
theorem d2_24 : decode method_3_code 24 = .ok (.iconst 1, 1) := by decide +kernel
theorem d2_25 : decode method_3_code 25 = .ok (.newarray .char, 2) := by decide +kernel
theorem d2_27 : decode method_3_code 27 = .ok (.dup, 1) := by decide +kernel
theorem d2_28 : decode method_3_code 28 = .ok (.iconst 0, 1) := by decide +kernel
theorem d2_29 : decode method_3_code 29 = .ok (.iload_n 1, 1) := by decide +kernel
theorem d2_30 : decode method_3_code 30 = .ok (.castore, 1) := by decide +kernel
theorem d2_31 : decode method_3_code 31 = .ok (.invokespecial 9, 3) := by decide +kernel
theorem d2_34 : decode method_3_code 34 = .ok (.areturn, 1) := by decide +kernel
set_option maxRecDepth 65536 in
set_option maxHeartbeats 40000000 in
theorem m_make1 (l : Launch) (Z : State) (a0 : Array Value) (hw : ∀ d ∈ tables_1, d.before a0 Z = true) (c0 c1 c2 c3 c4 : Int32) (zc : Int32) (O2 : Sta Z Z.heap "java/lang/String" "COMPACT_STRINGS" "Z" (.int zc)) (P5 : ¬ zc = 0) (h0 : Heap) (n0 : Nat) (ho : Old Z n0 h0) (hEL : EW Z a0 ELs) (r0 : ¬ c0 < 0 ∧ ¬ (255 : Int32) < c0) (r1 : ¬ c1 < 0 ∧ ¬ (255 : Int32) < c1) (r2 : ¬ c2 < 0 ∧ ¬ (255 : Int32) < c2) (r3 : ¬ c3 < 0 ∧ ¬ (255 : Int32) < c3) (r4 : ¬ c4 < 0 ∧ ¬ (255 : Int32) < c4) :
    CW l (⟨"com/example/confinement/confinement/monitor/SitesIsFamilyPinLaw", "make", "(ICCCCC)Ljava/lang/String;"⟩ : MethodName) method_3_code 6 (some (.object "java/lang/String")) [] ({ frames := 5, cells := 5, slots := 20, locals := 90 } : Room) Z ELs [] n0 h0 #[(.int (1 : Int32)), (.int c0), (.int c1), (.int c2), (.int c3), (.int c4)] [] (fun v h => ∃ (x t : Addr), v = some (.ref x) ∧ h0.size ≤ x ∧ Str Z h x t [c0]) := by
  refine CW.walk (plainFor_of_name pn3) ho (L0 := #[.val (.int (1 : Int32)), .val (.int c0), .val (.int c1), .val (.int c2), .val (.int c3), .val (.int c4)]) (fun m => rfl) ?_
  intro pG e s m below meth cO T hlk hret hnm hSL A0
  have K0 : Keep h0 h0 [] := Keep.refl _ _
  refine f_iloadN A0 d2_0 (pc' := 1) rfl rfl ?_
  refine f_ifY A0 d2_1 ((if0 _ _).trans (feq (by decide : ¬ (1 : Int32) = (0 : Int32))).2) (pc' := 15) (by decide) (by decide) ?_
  refine f_iloadN A0 d2_15 (pc' := 16) rfl rfl ?_
  refine f_iconst A0 d2_16 (pc' := 17) rfl 1 rfl ?_
  refine f_icN A0 d2_17 (teq (by decide : (1 : Int32) = (1 : Int32))).2 (pc' := 20) rfl ?_
  refine f_new A0 d2_20 (pc' := 23) rfl (wd hw 7 rfl) (wd hw 8 rfl) (wd hw 9 rfl) (by decide) (by decide) fun a53 T53 h53 g53 A53 E53 X53 D53 => ?_
  have z53 : n0 ≤ a53 := Nat.le_trans A0.sz (Nat.le_of_eq g53.symm)
  have y53 : h0.size ≤ a53 := Nat.le_trans K0.1 (Nat.le_of_eq g53.symm)
  have Q54 : Keep h0 h53 [] := K0.ext E53
  have s53 := Safe.ext E53 (A0.ch rfl).1 (Safe.new (Nat.le_of_eq g53.symm))
  refine f_dup A53 d2_23 (pc' := 24) rfl rfl ?_
  refine f_iconst A53 d2_24 (pc' := 25) rfl 1 rfl ?_
  refine f_newP A53 1 d2_25 (pc' := 27) rfl (wd hw 10 rfl) (by decide) (by decide) (by decide) (by decide) (by decide) (ad := "[C") (by decide) fun a55 T55 h55 k55 g55 A55 E55 F55 X55 => ?_
  have z55 : n0 ≤ a55 := Nat.le_trans A53.sz (Nat.le_of_eq g55.symm)
  have y55 : h0.size ≤ a55 := Nat.le_trans Q54.1 (Nat.le_of_eq g55.symm)
  have Q56 : Keep h0 h55 [] := Q54.ext E55
  have V55 : Arv Z h55 a55 k55 .char (1 : Int32) [(.int (0 : Int32))] (.int (0 : Int32)) := F55.pad (pad_rep [] (.int (0 : Int32)) 1)
  refine f_dup A55 d2_27 (pc' := 28) rfl rfl ?_
  refine f_iconst A55 d2_28 (pc' := 29) rfl 0 rfl ?_
  refine f_iloadN A55 d2_29 (pc' := 30) rfl rfl ?_
  refine f_castore A55 d2_30 (pc' := 31) rfl V55 ⟨by decide, by decide⟩ 0 (by decide) (Nat.le_of_ble_eq_true rfl) c0 (nar_id (by have := of_lat r0; omega)) (vs' := [(.int c0)]) rfl z55 (fun _ => (Safe.exa A55.hZ.alike X55 (by decide) (by decide))) fun T57 h57 A57 K57 V57 => ?_
  have Q58 : Keep h0 h57 [] := Q56.trans K57 (allS (Or.inr y55) all0)
  have c59 := ((X53.ext E55).keep K57)
  have c60 := (((show Fld Z h53 a53 "java/lang/String" "value" "[B" .null from D53 (Or.inr (wd hw 23 rfl)) (ty := (.array .byte)) (by decide)).ext E55).keep K57 (ninS (Nat.ne_of_lt (Nat.lt_of_lt_of_le X53.lt (Nat.le_of_eq g55.symm))) nin0))
  have c61 := (((show Fld Z h53 a53 "java/lang/String" "coder" "B" (.int (0 : Int32)) from D53 (Or.inr (wd hw 24 rfl)) (ty := .byte) (by decide)).ext E55).keep K57 (ninS (Nat.ne_of_lt (Nat.lt_of_lt_of_le X53.lt (Nat.le_of_eq g55.symm))) nin0))
  have c63 := (Safe.keep K57 (sfS (Safe.exa A55.hZ.alike X55 (by decide) (by decide)) sf0) (A55.ch rfl).1 (Safe.ext E55 (A53.ch rfl).1 s53))
  refine f_callI A57 (a := a53) d2_31 (pc' := 34) rfl rfl (wd hw 11 rfl) (wd hw 12 rfl) (wd hw 13 rfl) (by decide) pd7 [(.ref a55)] [(.ref a53)] rfl rfl rfl 1 (Nat.le_of_eq rfl) (payNew (W := 1) A57 hw (wd hw 8 rfl) (cs := [c0]) 1 z53 c59 c60 c61 V57 O2 P5 rfl rfl (by decide) (by decide) (lc r0 ln) (by decide) (by decide)) (kc := 1) (ks := 1) (by decide) (by decide) (allS z53 all0) (fun _ => (sfS c63 sf0)) fun v62 T62 h62 L62 A62 K62 q62 => ?_
  have Q64 : Keep h0 h62 [] := Q58.trans K62 (allS (Or.inr y53) all0)
  obtain ⟨rfl, t62, tz62, tg62, tn62, G62⟩ := q62
  show Wp pG e below _ T62 (mkF m 34 _ [(.ref a53)])
  exact f_retRW A62 hEL hlk hret d2_34 rfl rfl (by decide) (by decide) Q64 ⟨a53, t62, rfl, y53, G62⟩
set_option maxRecDepth 65536 in
set_option maxHeartbeats 40000000 in
theorem m_ioc2 (l : Launch) (Z : State) (a0 : Array Value) (hw : ∀ d ∈ tables_1, d.before a0 Z = true) (t : Addr) (kb : ClassId) (c0 c1 : Int32) (h0 : Heap) (n0 : Nat) (ho : Old Z n0 h0) (V : Arv Z h0 t kb .byte 2 [(.int (StrChars.lo8 c0)), (.int (StrChars.lo8 c1))] (.int 0)) (r0 : ¬ c0 < 0 ∧ ¬ (255 : Int32) < c0) (r1 : ¬ c1 < 0 ∧ ¬ (255 : Int32) < c1) :
    CN l (⟨"java/lang/StringLatin1", "indexOfChar", "([BIII)I"⟩ : MethodName) jdk_43_method_23_code 6 (some .int) [] ({ frames := 0, cells := 0, slots := 0, locals := 0 } : Room) Z n0 h0 #[(.ref t), (.int (32 : Int32)), (.int (0 : Int32)), (.int (2 : Int32))] [] (fun v h => v = some (.int (idxL [c0, c1] 0)) ∧ h = h0) := by
  refine CN.walk (plainFor_of_name pn1) ho (L0 := #[.val (.ref t), .val (.int (32 : Int32)), .val (.int (0 : Int32)), .val (.int (2 : Int32)), .unset, .unset]) (fun m => rfl) ?_
  intro pG e s m below meth cO T hlk hret hnm A0
  have K0 : Keep h0 h0 [] := Keep.refl _ _
  refine f_iloadN A0 d19_0 (pc' := 1) rfl rfl ?_
  refine f_i2b A0 d19_1 (pc' := 2) rfl (32 : Int32) (by decide) ?_
  refine f_istore A0 d19_2 (pc' := 4) rfl (L' := #[.val (.ref t), .val (.int (32 : Int32)), .val (.int (0 : Int32)), .val (.int (2 : Int32)), .val (.int (32 : Int32)), .unset]) rfl ?_
  refine f_iloadN A0 d19_4 (pc' := 5) rfl rfl ?_
  refine f_istore A0 d19_5 (pc' := 7) rfl (L' := #[.val (.ref t), .val (.int (32 : Int32)), .val (.int (0 : Int32)), .val (.int (2 : Int32)), .val (.int (32 : Int32)), .val (.int (0 : Int32))]) rfl ?_
  refine f_iload A0 d19_7 (pc' := 9) rfl rfl ?_
  refine f_iloadN A0 d19_9 (pc' := 10) rfl rfl ?_
  refine f_icN A0 d19_10 (tlt (by decide : (0 : Int32) < (2 : Int32))).2.1 (pc' := 13) rfl ?_
  refine f_aloadN A0 d19_13 (pc' := 14) rfl rfl rfl ?_
  refine f_iload A0 d19_14 (pc' := 16) rfl rfl ?_
  refine f_baload A0 d19_16 (pc' := 17) rfl V ⟨by decide, by decide⟩ rfl ?_
  refine f_iload A0 d19_17 (pc' := 19) rfl rfl ?_
  by_cases q0 : c0 = 32
  · refine f_icN A0 d19_19 (teq ((lo32 r0).mpr q0)).2 (pc' := 22) rfl ?_
    refine f_iload A0 d19_22 (pc' := 24) rfl rfl ?_
    exact f_retIN A0 hlk hret d19_24 (by decide) (by decide) K0 ⟨by simp [idxL, q0], rfl⟩
  · refine f_icY A0 d19_19 (feq (fun q => q0 ((lo32 r0).mp q))).2 (pc' := 25) (by decide) (by decide) ?_
    refine f_iinc A0 d19_25 (pc' := 28) rfl rfl (1 : Int32) (by decide) (L' := #[.val (.ref t), .val (.int (32 : Int32)), .val (.int (0 : Int32)), .val (.int (2 : Int32)), .val (.int (32 : Int32)), .val (.int (1 : Int32))]) rfl ?_
    refine f_goto A0 d19_28 (pc' := 7) (by decide) (by decide) ?_
    refine f_iload A0 d19_7 (pc' := 9) rfl rfl ?_
    refine f_iloadN A0 d19_9 (pc' := 10) rfl rfl ?_
    refine f_icN A0 d19_10 (tlt (by decide : (1 : Int32) < (2 : Int32))).2.1 (pc' := 13) rfl ?_
    refine f_aloadN A0 d19_13 (pc' := 14) rfl rfl rfl ?_
    refine f_iload A0 d19_14 (pc' := 16) rfl rfl ?_
    refine f_baload A0 d19_16 (pc' := 17) rfl V ⟨by decide, by decide⟩ rfl ?_
    refine f_iload A0 d19_17 (pc' := 19) rfl rfl ?_
    by_cases q1 : c1 = 32
    · refine f_icN A0 d19_19 (teq ((lo32 r1).mpr q1)).2 (pc' := 22) rfl ?_
      refine f_iload A0 d19_22 (pc' := 24) rfl rfl ?_
      exact f_retIN A0 hlk hret d19_24 (by decide) (by decide) K0 ⟨by simp [idxL, q0, q1], rfl⟩
    · refine f_icY A0 d19_19 (feq (fun q => q1 ((lo32 r1).mp q))).2 (pc' := 25) (by decide) (by decide) ?_
      refine f_iinc A0 d19_25 (pc' := 28) rfl rfl (2 : Int32) (by decide) (L' := #[.val (.ref t), .val (.int (32 : Int32)), .val (.int (0 : Int32)), .val (.int (2 : Int32)), .val (.int (32 : Int32)), .val (.int (2 : Int32))]) rfl ?_
      refine f_goto A0 d19_28 (pc' := 7) (by decide) (by decide) ?_
      refine f_iload A0 d19_7 (pc' := 9) rfl rfl ?_
      refine f_iloadN A0 d19_9 (pc' := 10) rfl rfl ?_
      refine f_icY A0 d19_10 (flt (by decide : ¬ (2 : Int32) < (2 : Int32))).2.1 (pc' := 31) (by decide) (by decide) ?_
      refine f_iconst A0 d19_31 (pc' := 32) rfl (-1) rfl ?_
      exact f_retIN A0 hlk hret d19_32 (by decide) (by decide) K0 ⟨by simp [idxL, q0, q1], rfl⟩
set_option maxRecDepth 65536 in
set_option maxHeartbeats 40000000 in
theorem m_lio2 (l : Launch) (Z : State) (a0 : Array Value) (hw : ∀ d ∈ tables_1, d.before a0 Z = true) (t : Addr) (kb : ClassId) (c0 c1 : Int32) (h0 : Heap) (n0 : Nat) (ho : Old Z n0 h0) (V : Arv Z h0 t kb .byte 2 [(.int (StrChars.lo8 c0)), (.int (StrChars.lo8 c1))] (.int 0)) (r0 : ¬ c0 < 0 ∧ ¬ (255 : Int32) < c0) (r1 : ¬ c1 < 0 ∧ ¬ (255 : Int32) < c1) :
    CN l (⟨"java/lang/StringLatin1", "indexOf", "([BIII)I"⟩ : MethodName) jdk_43_method_22_code 4 (some .int) [] ({ frames := 1, cells := 0, slots := 0, locals := 30 } : Room) Z n0 h0 #[(.ref t), (.int (32 : Int32)), (.int (0 : Int32)), (.int (2 : Int32))] [] (fun v h => v = some (.int (idxL [c0, c1] 0)) ∧ h = h0) := by
  refine CN.walk (plainFor_of_name pn1) ho (L0 := #[.val (.ref t), .val (.int (32 : Int32)), .val (.int (0 : Int32)), .val (.int (2 : Int32))]) (fun m => rfl) ?_
  intro pG e s m below meth cO T hlk hret hnm A0
  have K0 : Keep h0 h0 [] := Keep.refl _ _
  refine f_iloadN A0 d12_0 (pc' := 1) rfl rfl ?_
  refine f_callS A0 d12_1 (pc' := 4) rfl (wd hw 63 rfl) (wd hw 64 rfl) (wd hw 61 rfl) (wd hw 65 rfl) (by decide) pd1 [(.int (32 : Int32))] [] rfl rfl rfl 0 (Nat.le_of_eq rfl) (CN.pay (W := 0) A0 (m_can l Z a0 hw h0 n0 A0.old) (wd hw 65 rfl) (wd hw 61 rfl) (by decide) (by decide)) (kc := 0) (ks := 0) (by decide) (by decide) all0 (fun q => nomatch q) fun v65 T65 h65 L65 A65 K65 q65 => ?_
  obtain ⟨rfl, hh65⟩ := q65
  obtain rfl := hh65.symm
  show Wp pG e below _ T65 (mkF m 4 _ [(.int (1 : Int32))])
  refine f_ifY A65 d12_4 ((if0 _ _).trans (feq (by decide : ¬ (1 : Int32) = (0 : Int32))).2) (pc' := 9) (by decide) (by decide) ?_
  refine f_iloadN A65 d12_9 (pc' := 10) rfl rfl ?_
  refine f_iconst A65 d12_10 (pc' := 11) rfl 0 rfl ?_
  refine f_callS A65 d12_11 (pc' := 14) rfl (wd hw 66 rfl) (wd hw 67 rfl) (wd hw 68 rfl) (wd hw 69 rfl) (by decide) pd2 [(.int (0 : Int32)), (.int (0 : Int32))] [] rfl rfl rfl 0 (Nat.le_of_eq rfl) (CN.pay (W := 0) A65 (m_max l Z a0 hw (0 : Int32) (0 : Int32) h0 n0 A65.old) (wd hw 69 rfl) (wd hw 68 rfl) (by decide) (by decide)) (kc := 0) (ks := 0) (by decide) (by decide) all0 (fun q => nomatch q) fun v66 T66 h66 L66 A66 K66 q66 => ?_
  obtain ⟨e66, hh66⟩ := q66
  obtain rfl := hh66.symm
  rw [if_neg (by decide)] at e66
  subst e66
  show Wp pG e below _ T66 (mkF m 14 _ [(.int (0 : Int32))])
  refine f_istoreN A66 d12_14 (pc' := 15) rfl (L' := #[.val (.ref t), .val (.int (32 : Int32)), .val (.int (0 : Int32)), .val (.int (2 : Int32))]) rfl ?_
  refine f_iloadN A66 d12_15 (pc' := 16) rfl rfl ?_
  refine f_aloadN A66 d12_16 (pc' := 17) rfl rfl rfl ?_
  refine f_arraylength A66 d12_17 (pc' := 18) rfl V ?_
  refine f_callS A66 d12_18 (pc' := 21) rfl (wd hw 70 rfl) (wd hw 71 rfl) (wd hw 68 rfl) (wd hw 72 rfl) (by decide) pd2 [(.int (2 : Int32)), (.int (2 : Int32))] [] rfl rfl rfl 0 (Nat.le_of_eq rfl) (CN.pay (W := 0) A66 (m_min l Z a0 hw (2 : Int32) (2 : Int32) h0 n0 A66.old) (wd hw 72 rfl) (wd hw 68 rfl) (by decide) (by decide)) (kc := 0) (ks := 0) (by decide) (by decide) all0 (fun q => nomatch q) fun v67 T67 h67 L67 A67 K67 q67 => ?_
  obtain ⟨e67, hh67⟩ := q67
  obtain rfl := hh67.symm
  rw [if_neg (by decide)] at e67
  subst e67
  show Wp pG e below _ T67 (mkF m 21 _ [(.int (2 : Int32))])
  refine f_istoreN A67 d12_21 (pc' := 22) rfl (L' := #[.val (.ref t), .val (.int (32 : Int32)), .val (.int (0 : Int32)), .val (.int (2 : Int32))]) rfl ?_
  refine f_iloadN A67 d12_22 (pc' := 23) rfl rfl ?_
  refine f_iloadN A67 d12_23 (pc' := 24) rfl rfl ?_
  refine f_icY A67 d12_24 (tlt (by decide : (0 : Int32) < (2 : Int32))).1 (pc' := 29) (by decide) (by decide) ?_
  refine f_aloadN A67 d12_29 (pc' := 30) rfl rfl rfl ?_
  refine f_iloadN A67 d12_30 (pc' := 31) rfl rfl ?_
  refine f_iloadN A67 d12_31 (pc' := 32) rfl rfl ?_
  refine f_iloadN A67 d12_32 (pc' := 33) rfl rfl ?_
  refine f_callS A67 d12_33 (pc' := 36) rfl (wd hw 83 rfl) (wd hw 84 rfl) (wd hw 61 rfl) (wd hw 85 rfl) (by decide) pd5 [(.ref t), (.int (32 : Int32)), (.int (0 : Int32)), (.int (2 : Int32))] [] rfl rfl rfl 0 (Nat.le_of_eq rfl) (CN.pay (W := 0) A67 (m_ioc2 l Z a0 hw t kb c0 c1 h0 n0 A67.old V r0 r1) (wd hw 85 rfl) (wd hw 61 rfl) (by decide) (by decide)) (kc := 0) (ks := 0) (by decide) (by decide) all0 (fun q => nomatch q) fun v68 T68 h68 L68 A68 K68 q68 => ?_
  obtain ⟨rfl, hh68⟩ := q68
  obtain rfl := hh68.symm
  show Wp pG e below _ T68 (mkF m 36 _ [(.int (idxL [c0, c1] 0))])
  exact f_retIN A68 hlk hret d12_36 (by decide) (by decide) K0 ⟨rfl, rfl⟩
set_option maxRecDepth 65536 in
set_option maxHeartbeats 40000000 in
theorem m_ii2 (l : Launch) (Z : State) (a0 : Array Value) (hw : ∀ d ∈ tables_1, d.before a0 Z = true) (x t : Addr) (c0 c1 : Int32) (zc : Int32) (O2 : Sta Z Z.heap "java/lang/String" "COMPACT_STRINGS" "Z" (.int zc)) (P5 : ¬ zc = 0) (h0 : Heap) (n0 : Nat) (ho : Old Z n0 h0) (F : Str Z h0 x t [c0, c1]) (r0 : ¬ c0 < 0 ∧ ¬ (255 : Int32) < c0) (r1 : ¬ c1 < 0 ∧ ¬ (255 : Int32) < c1) :
    CN l (⟨"java/lang/String", "indexOf", "(II)I"⟩ : MethodName) jdk_42_method_80_code 3 (some .int) [] ({ frames := 2, cells := 0, slots := 0, locals := 60 } : Room) Z n0 h0 #[(.ref x), (.int (32 : Int32)), (.int (0 : Int32))] [] (fun v h => v = some (.int (idxL [c0, c1] 0)) ∧ h = h0) := by
  refine CN.walk (plainFor_of_name pn0) ho (L0 := #[.val (.ref x), .val (.int (32 : Int32)), .val (.int (0 : Int32))]) (fun m => rfl) ?_
  intro pG e s m below meth cO T hlk hret hnm A0
  have K0 : Keep h0 h0 [] := Keep.refl _ _
  obtain ⟨kb69, fv69, fc69, av69⟩ := F.open (lc r0.2 (lc r1.2 ln))
  have av69 : Arv Z h0 t kb69 .byte (2 : Int32) [(.int (StrChars.lo8 c0)), (.int (StrChars.lo8 c1))] (.int 0) := av69
  refine f_aloadN A0 d8_0 (pc' := 1) rfl rfl rfl ?_
  refine f_callV A0 (a := x) d8_1 (pc' := 4) rfl (wd hw 43 rfl) (wd hw 44 rfl) (nfS A0 (wd hw 46 rfl)) (wd hw 46 rfl) (wd hw 45 rfl) (by decide) F.exa pd3 [] [] rfl rfl rfl 0 (Nat.le_of_eq rfl) (CN.pay (W := 0) A0 (m_isLat l Z a0 hw x zc O2 P5 h0 n0 A0.old fc69) (wd hw 47 rfl) (wd hw 9 rfl) (by decide) (by decide)) (kc := 0) (ks := 0) (by decide) (by decide) all0 (fun q => nomatch q) fun v70 T70 h70 L70 A70 K70 q70 => ?_
  obtain ⟨rfl, hh70⟩ := q70
  obtain rfl := hh70.symm
  show Wp pG e below _ T70 (mkF m 4 _ [(.int (1 : Int32))])
  refine f_ifN A70 d8_4 ((if0 _ _).trans (feq (by decide : ¬ (1 : Int32) = (0 : Int32))).1) (pc' := 7) rfl ?_
  refine f_aloadN A70 d8_7 (pc' := 8) rfl rfl rfl ?_
  refine f_getF A70 d8_8 (pc' := 11) rfl (host := "") (Or.inl (wd hw 27 rfl)) Via.refl fv69 fun T71 A71 => ?_
  refine f_iloadN A71 d8_11 (pc' := 12) rfl rfl ?_
  refine f_iloadN A71 d8_12 (pc' := 13) rfl rfl ?_
  refine f_aloadN A71 d8_13 (pc' := 14) rfl rfl rfl ?_
  refine f_callV A71 (a := x) d8_14 (pc' := 17) rfl (wd hw 49 rfl) (wd hw 50 rfl) (nfS A71 (wd hw 52 rfl)) (wd hw 52 rfl) (wd hw 51 rfl) (by decide) F.exa pd4 [] [(.int (0 : Int32)), (.int (32 : Int32)), (.ref t)] rfl rfl rfl 3 (Nat.le_of_eq rfl) (payLen (W := 3) A71 hw (wd hw 8 rfl) F O2 P5 (by decide) (by decide)) (kc := 0) (ks := 0) (by decide) (by decide) all0 (fun q => nomatch q) fun v72 T72 h72 L72 A72 K72 q72 => ?_
  obtain ⟨rfl, hh72⟩ := q72
  obtain rfl := hh72.symm
  show Wp pG e below _ T72 (mkF m 17 _ [(.int (2 : Int32)), (.int (0 : Int32)), (.int (32 : Int32)), (.ref t)])
  refine f_callS A72 d8_17 (pc' := 20) rfl (wd hw 59 rfl) (wd hw 60 rfl) (wd hw 61 rfl) (wd hw 62 rfl) (by decide) pd5 [(.ref t), (.int (32 : Int32)), (.int (0 : Int32)), (.int (2 : Int32))] [] rfl rfl rfl 0 (Nat.le_of_eq rfl) (CN.pay (W := 0) A72 (m_lio2 l Z a0 hw t kb69 c0 c1 h0 n0 A72.old av69 r0 r1) (wd hw 62 rfl) (wd hw 61 rfl) (by decide) (by decide)) (kc := 0) (ks := 0) (by decide) (by decide) all0 (fun q => nomatch q) fun v73 T73 h73 L73 A73 K73 q73 => ?_
  obtain ⟨rfl, hh73⟩ := q73
  obtain rfl := hh73.symm
  show Wp pG e below _ T73 (mkF m 20 _ [(.int (idxL [c0, c1] 0))])
  refine f_goto A73 d8_20 (pc' := 36) (by decide) (by decide) ?_
  exact f_retIN A73 hlk hret d8_36 (by decide) (by decide) K0 ⟨rfl, rfl⟩
set_option maxRecDepth 65536 in
set_option maxHeartbeats 40000000 in
theorem m_i2 (l : Launch) (Z : State) (a0 : Array Value) (hw : ∀ d ∈ tables_1, d.before a0 Z = true) (x t : Addr) (c0 c1 : Int32) (zc : Int32) (O2 : Sta Z Z.heap "java/lang/String" "COMPACT_STRINGS" "Z" (.int zc)) (P5 : ¬ zc = 0) (h0 : Heap) (n0 : Nat) (ho : Old Z n0 h0) (F : Str Z h0 x t [c0, c1]) (r0 : ¬ c0 < 0 ∧ ¬ (255 : Int32) < c0) (r1 : ¬ c1 < 0 ∧ ¬ (255 : Int32) < c1) :
    CN l (⟨"java/lang/String", "indexOf", "(I)I"⟩ : MethodName) jdk_42_method_79_code 2 (some .int) [] ({ frames := 3, cells := 0, slots := 0, locals := 80 } : Room) Z n0 h0 #[(.ref x), (.int (32 : Int32))] [] (fun v h => v = some (.int (idxL [c0, c1] 0)) ∧ h = h0) := by
  refine CN.walk (plainFor_of_name pn0) ho (L0 := #[.val (.ref x), .val (.int (32 : Int32))]) (fun m => rfl) ?_
  intro pG e s m below meth cO T hlk hret hnm A0
  have K0 : Keep h0 h0 [] := Keep.refl _ _
  refine f_aloadN A0 d7_0 (pc' := 1) rfl rfl rfl ?_
  refine f_iloadN A0 d7_1 (pc' := 2) rfl rfl ?_
  refine f_iconst A0 d7_2 (pc' := 3) rfl 0 rfl ?_
  refine f_callV A0 (a := x) d7_3 (pc' := 6) rfl (wd hw 38 rfl) (wd hw 39 rfl) (nfS A0 (wd hw 41 rfl)) (wd hw 41 rfl) (wd hw 40 rfl) (by decide) F.exa pd2 [(.int (32 : Int32)), (.int (0 : Int32))] [] rfl rfl rfl 0 (Nat.le_of_eq rfl) (CN.pay (W := 0) A0 (m_ii2 l Z a0 hw x t c0 c1 zc O2 P5 h0 n0 A0.old F r0 r1) (wd hw 42 rfl) (wd hw 9 rfl) (by decide) (by decide)) (kc := 0) (ks := 0) (by decide) (by decide) all0 (fun q => nomatch q) fun v74 T74 h74 L74 A74 K74 q74 => ?_
  obtain ⟨rfl, hh74⟩ := q74
  obtain rfl := hh74.symm
  show Wp pG e below _ T74 (mkF m 6 _ [(.int (idxL [c0, c1] 0))])
  exact f_retIN A74 hlk hret d7_6 (by decide) (by decide) K0 ⟨rfl, rfl⟩
set_option maxRecDepth 65536 in
set_option maxHeartbeats 40000000 in
theorem m_fam2 (l : Launch) (Z : State) (a0 : Array Value) (hw : ∀ d ∈ tables_1, d.before a0 Z = true) (x t : Addr) (c0 c1 : Int32) (zc : Int32) (O2 : Sta Z Z.heap "java/lang/String" "COMPACT_STRINGS" "Z" (.int zc)) (P5 : ¬ zc = 0) (r : Int32) (h0 : Heap) (n0 : Nat) (ho : Old Z n0 h0) (F : Str Z h0 x t [c0, c1]) (r0 : ¬ c0 < 0 ∧ ¬ (255 : Int32) < c0) (r1 : ¬ c1 < 0 ∧ ¬ (255 : Int32) < c1) (hr : (if 0 < idxL [c0, c1] 0 then 1 else 0) = r) :
    CN l (⟨"com/example/confinement/confinement/monitor/Sites", "isFamily", "(Ljava/lang/String;)Z"⟩ : MethodName) prog_13_method_2_code 1 (some .boolean) [] ({ frames := 4, cells := 0, slots := 0, locals := 100 } : Room) Z n0 h0 #[(.ref x)] [] (fun v h => v = some (.int r) ∧ h = h0) := by
  refine CN.walk (plainFor_of_name pn2) ho (L0 := #[.val (.ref x)]) (fun m => rfl) ?_
  intro pG e s m below meth cO T hlk hret hnm A0
  have K0 : Keep h0 h0 [] := Keep.refl _ _
  refine f_aloadN A0 d6_0 (pc' := 1) rfl rfl rfl ?_
  refine f_bipush A0 d6_1 (pc' := 3) rfl 32 rfl ?_
  refine f_callV A0 (a := x) d6_3 (pc' := 6) rfl (wd hw 33 rfl) (wd hw 34 rfl) (nfS A0 (wd hw 36 rfl)) (wd hw 36 rfl) (wd hw 35 rfl) (by decide) F.exa pd6 [(.int (32 : Int32))] [] rfl rfl rfl 0 (Nat.le_of_eq rfl) (CN.pay (W := 0) A0 (m_i2 l Z a0 hw x t c0 c1 zc O2 P5 h0 n0 A0.old F r0 r1) (wd hw 37 rfl) (wd hw 9 rfl) (by decide) (by decide)) (kc := 0) (ks := 0) (by decide) (by decide) all0 (fun q => nomatch q) fun v75 T75 h75 L75 A75 K75 q75 => ?_
  obtain ⟨rfl, hh75⟩ := q75
  obtain rfl := hh75.symm
  show Wp pG e below _ T75 (mkF m 6 _ [(.int (idxL [c0, c1] 0))])
  by_cases q : (0 : Int32) < (idxL [c0, c1] 0)
  · refine f_ifN A75 d6_6 ((if0 _ _).trans (tlt q).2.2.2) (pc' := 9) rfl ?_
    refine f_iconst A75 d6_9 (pc' := 10) rfl 1 rfl ?_
    refine f_goto A75 d6_10 (pc' := 14) (by decide) (by decide) ?_
    exact f_retBN A75 hlk hret d6_14 (by decide) (1 : Int32) (by decide) (by decide) (by decide) K0 ⟨by rw [← hr, if_pos q], rfl⟩
  · refine f_ifY A75 d6_6 ((if0 _ _).trans (flt q).2.2.2) (pc' := 13) (by decide) (by decide) ?_
    refine f_iconst A75 d6_13 (pc' := 14) rfl 0 rfl ?_
    exact f_retBN A75 hlk hret d6_14 (by decide) (0 : Int32) (by decide) (by decide) (by decide) K0 ⟨by rw [← hr, if_neg q], rfl⟩
theorem d2_35 : decode method_3_code 35 = .ok (.iload_n 0, 1) := by decide +kernel
theorem d2_36 : decode method_3_code 36 = .ok (.iconst 2, 1) := by decide +kernel
theorem d2_37 : decode method_3_code 37 = .ok (.if_icmp .ne 22, 3) := by decide +kernel
theorem d2_40 : decode method_3_code 40 = .ok (.new 7, 3) := by decide +kernel
theorem d2_43 : decode method_3_code 43 = .ok (.dup, 1) := by decide +kernel
theorem d2_44 : decode method_3_code 44 = .ok (.iconst 2, 1) := by decide +kernel
theorem d2_45 : decode method_3_code 45 = .ok (.newarray .char, 2) := by decide +kernel
theorem d2_47 : decode method_3_code 47 = .ok (.dup, 1) := by decide +kernel
theorem d2_48 : decode method_3_code 48 = .ok (.iconst 0, 1) := by decide +kernel
theorem d2_49 : decode method_3_code 49 = .ok (.iload_n 1, 1) := by decide +kernel
theorem d2_50 : decode method_3_code 50 = .ok (.castore, 1) := by decide +kernel
theorem d2_51 : decode method_3_code 51 = .ok (.dup, 1) := by decide +kernel
theorem d2_52 : decode method_3_code 52 = .ok (.iconst 1, 1) := by decide +kernel
theorem d2_53 : decode method_3_code 53 = .ok (.iload_n 2, 1) := by decide +kernel
theorem d2_54 : decode method_3_code 54 = .ok (.castore, 1) := by decide +kernel
theorem d2_55 : decode method_3_code 55 = .ok (.invokespecial 9, 3) := by decide +kernel
theorem d2_58 : decode method_3_code 58 = .ok (.areturn, 1) := by decide +kernel
set_option maxRecDepth 65536 in
set_option maxHeartbeats 40000000 in
theorem m_make2 (l : Launch) (Z : State) (a0 : Array Value) (hw : ∀ d ∈ tables_1, d.before a0 Z = true) (c0 c1 c2 c3 c4 : Int32) (zc : Int32) (O2 : Sta Z Z.heap "java/lang/String" "COMPACT_STRINGS" "Z" (.int zc)) (P5 : ¬ zc = 0) (h0 : Heap) (n0 : Nat) (ho : Old Z n0 h0) (hEL : EW Z a0 ELs) (r0 : ¬ c0 < 0 ∧ ¬ (255 : Int32) < c0) (r1 : ¬ c1 < 0 ∧ ¬ (255 : Int32) < c1) (r2 : ¬ c2 < 0 ∧ ¬ (255 : Int32) < c2) (r3 : ¬ c3 < 0 ∧ ¬ (255 : Int32) < c3) (r4 : ¬ c4 < 0 ∧ ¬ (255 : Int32) < c4) :
    CW l (⟨"com/example/confinement/confinement/monitor/SitesIsFamilyPinLaw", "make", "(ICCCCC)Ljava/lang/String;"⟩ : MethodName) method_3_code 6 (some (.object "java/lang/String")) [] ({ frames := 5, cells := 5, slots := 20, locals := 90 } : Room) Z ELs [] n0 h0 #[(.int (2 : Int32)), (.int c0), (.int c1), (.int c2), (.int c3), (.int c4)] [] (fun v h => ∃ (x t : Addr), v = some (.ref x) ∧ h0.size ≤ x ∧ Str Z h x t [c0, c1]) := by
  refine CW.walk (plainFor_of_name pn3) ho (L0 := #[.val (.int (2 : Int32)), .val (.int c0), .val (.int c1), .val (.int c2), .val (.int c3), .val (.int c4)]) (fun m => rfl) ?_
  intro pG e s m below meth cO T hlk hret hnm hSL A0
  have K0 : Keep h0 h0 [] := Keep.refl _ _
  refine f_iloadN A0 d2_0 (pc' := 1) rfl rfl ?_
  refine f_ifY A0 d2_1 ((if0 _ _).trans (feq (by decide : ¬ (2 : Int32) = (0 : Int32))).2) (pc' := 15) (by decide) (by decide) ?_
  refine f_iloadN A0 d2_15 (pc' := 16) rfl rfl ?_
  refine f_iconst A0 d2_16 (pc' := 17) rfl 1 rfl ?_
  refine f_icY A0 d2_17 (feq (by decide : ¬ (2 : Int32) = (1 : Int32))).2 (pc' := 35) (by decide) (by decide) ?_
  refine f_iloadN A0 d2_35 (pc' := 36) rfl rfl ?_
  refine f_iconst A0 d2_36 (pc' := 37) rfl 2 rfl ?_
  refine f_icN A0 d2_37 (teq (by decide : (2 : Int32) = (2 : Int32))).2 (pc' := 40) rfl ?_
  refine f_new A0 d2_40 (pc' := 43) rfl (wd hw 7 rfl) (wd hw 8 rfl) (wd hw 9 rfl) (by decide) (by decide) fun a76 T76 h76 g76 A76 E76 X76 D76 => ?_
  have z76 : n0 ≤ a76 := Nat.le_trans A0.sz (Nat.le_of_eq g76.symm)
  have y76 : h0.size ≤ a76 := Nat.le_trans K0.1 (Nat.le_of_eq g76.symm)
  have Q77 : Keep h0 h76 [] := K0.ext E76
  have s76 := Safe.ext E76 (A0.ch rfl).1 (Safe.new (Nat.le_of_eq g76.symm))
  refine f_dup A76 d2_43 (pc' := 44) rfl rfl ?_
  refine f_iconst A76 d2_44 (pc' := 45) rfl 2 rfl ?_
  refine f_newP A76 2 d2_45 (pc' := 47) rfl (wd hw 10 rfl) (by decide) (by decide) (by decide) (by decide) (by decide) (ad := "[C") (by decide) fun a78 T78 h78 k78 g78 A78 E78 F78 X78 => ?_
  have z78 : n0 ≤ a78 := Nat.le_trans A76.sz (Nat.le_of_eq g78.symm)
  have y78 : h0.size ≤ a78 := Nat.le_trans Q77.1 (Nat.le_of_eq g78.symm)
  have Q79 : Keep h0 h78 [] := Q77.ext E78
  have V78 : Arv Z h78 a78 k78 .char (2 : Int32) [(.int (0 : Int32)), (.int (0 : Int32))] (.int (0 : Int32)) := F78.pad (pad_rep [] (.int (0 : Int32)) 2)
  refine f_dup A78 d2_47 (pc' := 48) rfl rfl ?_
  refine f_iconst A78 d2_48 (pc' := 49) rfl 0 rfl ?_
  refine f_iloadN A78 d2_49 (pc' := 50) rfl rfl ?_
  refine f_castore A78 d2_50 (pc' := 51) rfl V78 ⟨by decide, by decide⟩ 0 (by decide) (Nat.le_of_ble_eq_true rfl) c0 (nar_id (by have := of_lat r0; omega)) (vs' := [(.int c0), (.int (0 : Int32))]) rfl z78 (fun _ => (Safe.exa A78.hZ.alike X78 (by decide) (by decide))) fun T80 h80 A80 K80 V80 => ?_
  have Q81 : Keep h0 h80 [] := Q79.trans K80 (allS (Or.inr y78) all0)
  refine f_dup A80 d2_51 (pc' := 52) rfl rfl ?_
  refine f_iconst A80 d2_52 (pc' := 53) rfl 1 rfl ?_
  refine f_iloadN A80 d2_53 (pc' := 54) rfl rfl ?_
  have c83 := (X78.keep K80)
  refine f_castore A80 d2_54 (pc' := 55) rfl V80 ⟨by decide, by decide⟩ 1 (by decide) (Nat.le_of_ble_eq_true rfl) c1 (nar_id (by have := of_lat r1; omega)) (vs' := [(.int c0), (.int c1)]) rfl z78 (fun _ => (Safe.exa A80.hZ.alike c83 (by decide) (by decide))) fun T82 h82 A82 K82 V82 => ?_
  have Q84 : Keep h0 h82 [] := Q81.trans K82 (allS (Or.inr y78) all0)
  have c85 := (((X76.ext E78).keep K80).keep K82)
  have c86 := ((((show Fld Z h76 a76 "java/lang/String" "value" "[B" .null from D76 (Or.inr (wd hw 23 rfl)) (ty := (.array .byte)) (by decide)).ext E78).keep K80 (ninS (Nat.ne_of_lt (Nat.lt_of_lt_of_le X76.lt (Nat.le_of_eq g78.symm))) nin0)).keep K82 (ninS (Nat.ne_of_lt (Nat.lt_of_lt_of_le X76.lt (Nat.le_of_eq g78.symm))) nin0))
  have c87 := ((((show Fld Z h76 a76 "java/lang/String" "coder" "B" (.int (0 : Int32)) from D76 (Or.inr (wd hw 24 rfl)) (ty := .byte) (by decide)).ext E78).keep K80 (ninS (Nat.ne_of_lt (Nat.lt_of_lt_of_le X76.lt (Nat.le_of_eq g78.symm))) nin0)).keep K82 (ninS (Nat.ne_of_lt (Nat.lt_of_lt_of_le X76.lt (Nat.le_of_eq g78.symm))) nin0))
  have c89 := (Safe.keep K82 (sfS (Safe.exa A80.hZ.alike c83 (by decide) (by decide)) sf0) (A80.ch rfl).1 (Safe.keep K80 (sfS (Safe.exa A78.hZ.alike X78 (by decide) (by decide)) sf0) (A78.ch rfl).1 (Safe.ext E78 (A76.ch rfl).1 s76)))
  refine f_callI A82 (a := a76) d2_55 (pc' := 58) rfl rfl (wd hw 11 rfl) (wd hw 12 rfl) (wd hw 13 rfl) (by decide) pd7 [(.ref a78)] [(.ref a76)] rfl rfl rfl 1 (Nat.le_of_eq rfl) (payNew (W := 1) A82 hw (wd hw 8 rfl) (cs := [c0, c1]) 2 z76 c85 c86 c87 V82 O2 P5 rfl rfl (by decide) (by decide) (lc r0 (lc r1 ln)) (by decide) (by decide)) (kc := 1) (ks := 2) (by decide) (by decide) (allS z76 all0) (fun _ => (sfS c89 sf0)) fun v88 T88 h88 L88 A88 K88 q88 => ?_
  have Q90 : Keep h0 h88 [] := Q84.trans K88 (allS (Or.inr y76) all0)
  obtain ⟨rfl, t88, tz88, tg88, tn88, G88⟩ := q88
  show Wp pG e below _ T88 (mkF m 58 _ [(.ref a76)])
  exact f_retRW A88 hEL hlk hret d2_58 rfl rfl (by decide) (by decide) Q90 ⟨a76, t88, rfl, y76, G88⟩
set_option maxRecDepth 65536 in
set_option maxHeartbeats 40000000 in
theorem m_ioc3 (l : Launch) (Z : State) (a0 : Array Value) (hw : ∀ d ∈ tables_1, d.before a0 Z = true) (t : Addr) (kb : ClassId) (c0 c1 c2 : Int32) (h0 : Heap) (n0 : Nat) (ho : Old Z n0 h0) (V : Arv Z h0 t kb .byte 3 [(.int (StrChars.lo8 c0)), (.int (StrChars.lo8 c1)), (.int (StrChars.lo8 c2))] (.int 0)) (r0 : ¬ c0 < 0 ∧ ¬ (255 : Int32) < c0) (r1 : ¬ c1 < 0 ∧ ¬ (255 : Int32) < c1) (r2 : ¬ c2 < 0 ∧ ¬ (255 : Int32) < c2) :
    CN l (⟨"java/lang/StringLatin1", "indexOfChar", "([BIII)I"⟩ : MethodName) jdk_43_method_23_code 6 (some .int) [] ({ frames := 0, cells := 0, slots := 0, locals := 0 } : Room) Z n0 h0 #[(.ref t), (.int (32 : Int32)), (.int (0 : Int32)), (.int (3 : Int32))] [] (fun v h => v = some (.int (idxL [c0, c1, c2] 0)) ∧ h = h0) := by
  refine CN.walk (plainFor_of_name pn1) ho (L0 := #[.val (.ref t), .val (.int (32 : Int32)), .val (.int (0 : Int32)), .val (.int (3 : Int32)), .unset, .unset]) (fun m => rfl) ?_
  intro pG e s m below meth cO T hlk hret hnm A0
  have K0 : Keep h0 h0 [] := Keep.refl _ _
  refine f_iloadN A0 d19_0 (pc' := 1) rfl rfl ?_
  refine f_i2b A0 d19_1 (pc' := 2) rfl (32 : Int32) (by decide) ?_
  refine f_istore A0 d19_2 (pc' := 4) rfl (L' := #[.val (.ref t), .val (.int (32 : Int32)), .val (.int (0 : Int32)), .val (.int (3 : Int32)), .val (.int (32 : Int32)), .unset]) rfl ?_
  refine f_iloadN A0 d19_4 (pc' := 5) rfl rfl ?_
  refine f_istore A0 d19_5 (pc' := 7) rfl (L' := #[.val (.ref t), .val (.int (32 : Int32)), .val (.int (0 : Int32)), .val (.int (3 : Int32)), .val (.int (32 : Int32)), .val (.int (0 : Int32))]) rfl ?_
  refine f_iload A0 d19_7 (pc' := 9) rfl rfl ?_
  refine f_iloadN A0 d19_9 (pc' := 10) rfl rfl ?_
  refine f_icN A0 d19_10 (tlt (by decide : (0 : Int32) < (3 : Int32))).2.1 (pc' := 13) rfl ?_
  refine f_aloadN A0 d19_13 (pc' := 14) rfl rfl rfl ?_
  refine f_iload A0 d19_14 (pc' := 16) rfl rfl ?_
  refine f_baload A0 d19_16 (pc' := 17) rfl V ⟨by decide, by decide⟩ rfl ?_
  refine f_iload A0 d19_17 (pc' := 19) rfl rfl ?_
  by_cases q0 : c0 = 32
  · refine f_icN A0 d19_19 (teq ((lo32 r0).mpr q0)).2 (pc' := 22) rfl ?_
    refine f_iload A0 d19_22 (pc' := 24) rfl rfl ?_
    exact f_retIN A0 hlk hret d19_24 (by decide) (by decide) K0 ⟨by simp [idxL, q0], rfl⟩
  · refine f_icY A0 d19_19 (feq (fun q => q0 ((lo32 r0).mp q))).2 (pc' := 25) (by decide) (by decide) ?_
    refine f_iinc A0 d19_25 (pc' := 28) rfl rfl (1 : Int32) (by decide) (L' := #[.val (.ref t), .val (.int (32 : Int32)), .val (.int (0 : Int32)), .val (.int (3 : Int32)), .val (.int (32 : Int32)), .val (.int (1 : Int32))]) rfl ?_
    refine f_goto A0 d19_28 (pc' := 7) (by decide) (by decide) ?_
    refine f_iload A0 d19_7 (pc' := 9) rfl rfl ?_
    refine f_iloadN A0 d19_9 (pc' := 10) rfl rfl ?_
    refine f_icN A0 d19_10 (tlt (by decide : (1 : Int32) < (3 : Int32))).2.1 (pc' := 13) rfl ?_
    refine f_aloadN A0 d19_13 (pc' := 14) rfl rfl rfl ?_
    refine f_iload A0 d19_14 (pc' := 16) rfl rfl ?_
    refine f_baload A0 d19_16 (pc' := 17) rfl V ⟨by decide, by decide⟩ rfl ?_
    refine f_iload A0 d19_17 (pc' := 19) rfl rfl ?_
    by_cases q1 : c1 = 32
    · refine f_icN A0 d19_19 (teq ((lo32 r1).mpr q1)).2 (pc' := 22) rfl ?_
      refine f_iload A0 d19_22 (pc' := 24) rfl rfl ?_
      exact f_retIN A0 hlk hret d19_24 (by decide) (by decide) K0 ⟨by simp [idxL, q0, q1], rfl⟩
    · refine f_icY A0 d19_19 (feq (fun q => q1 ((lo32 r1).mp q))).2 (pc' := 25) (by decide) (by decide) ?_
      refine f_iinc A0 d19_25 (pc' := 28) rfl rfl (2 : Int32) (by decide) (L' := #[.val (.ref t), .val (.int (32 : Int32)), .val (.int (0 : Int32)), .val (.int (3 : Int32)), .val (.int (32 : Int32)), .val (.int (2 : Int32))]) rfl ?_
      refine f_goto A0 d19_28 (pc' := 7) (by decide) (by decide) ?_
      refine f_iload A0 d19_7 (pc' := 9) rfl rfl ?_
      refine f_iloadN A0 d19_9 (pc' := 10) rfl rfl ?_
      refine f_icN A0 d19_10 (tlt (by decide : (2 : Int32) < (3 : Int32))).2.1 (pc' := 13) rfl ?_
      refine f_aloadN A0 d19_13 (pc' := 14) rfl rfl rfl ?_
      refine f_iload A0 d19_14 (pc' := 16) rfl rfl ?_
      refine f_baload A0 d19_16 (pc' := 17) rfl V ⟨by decide, by decide⟩ rfl ?_
      refine f_iload A0 d19_17 (pc' := 19) rfl rfl ?_
      by_cases q2 : c2 = 32
      · refine f_icN A0 d19_19 (teq ((lo32 r2).mpr q2)).2 (pc' := 22) rfl ?_
        refine f_iload A0 d19_22 (pc' := 24) rfl rfl ?_
        exact f_retIN A0 hlk hret d19_24 (by decide) (by decide) K0 ⟨by simp [idxL, q0, q1, q2], rfl⟩
      · refine f_icY A0 d19_19 (feq (fun q => q2 ((lo32 r2).mp q))).2 (pc' := 25) (by decide) (by decide) ?_
        refine f_iinc A0 d19_25 (pc' := 28) rfl rfl (3 : Int32) (by decide) (L' := #[.val (.ref t), .val (.int (32 : Int32)), .val (.int (0 : Int32)), .val (.int (3 : Int32)), .val (.int (32 : Int32)), .val (.int (3 : Int32))]) rfl ?_
        refine f_goto A0 d19_28 (pc' := 7) (by decide) (by decide) ?_
        refine f_iload A0 d19_7 (pc' := 9) rfl rfl ?_
        refine f_iloadN A0 d19_9 (pc' := 10) rfl rfl ?_
        refine f_icY A0 d19_10 (flt (by decide : ¬ (3 : Int32) < (3 : Int32))).2.1 (pc' := 31) (by decide) (by decide) ?_
        refine f_iconst A0 d19_31 (pc' := 32) rfl (-1) rfl ?_
        exact f_retIN A0 hlk hret d19_32 (by decide) (by decide) K0 ⟨by simp [idxL, q0, q1, q2], rfl⟩
set_option maxRecDepth 65536 in
set_option maxHeartbeats 40000000 in
theorem m_lio3 (l : Launch) (Z : State) (a0 : Array Value) (hw : ∀ d ∈ tables_1, d.before a0 Z = true) (t : Addr) (kb : ClassId) (c0 c1 c2 : Int32) (h0 : Heap) (n0 : Nat) (ho : Old Z n0 h0) (V : Arv Z h0 t kb .byte 3 [(.int (StrChars.lo8 c0)), (.int (StrChars.lo8 c1)), (.int (StrChars.lo8 c2))] (.int 0)) (r0 : ¬ c0 < 0 ∧ ¬ (255 : Int32) < c0) (r1 : ¬ c1 < 0 ∧ ¬ (255 : Int32) < c1) (r2 : ¬ c2 < 0 ∧ ¬ (255 : Int32) < c2) :
    CN l (⟨"java/lang/StringLatin1", "indexOf", "([BIII)I"⟩ : MethodName) jdk_43_method_22_code 4 (some .int) [] ({ frames := 1, cells := 0, slots := 0, locals := 30 } : Room) Z n0 h0 #[(.ref t), (.int (32 : Int32)), (.int (0 : Int32)), (.int (3 : Int32))] [] (fun v h => v = some (.int (idxL [c0, c1, c2] 0)) ∧ h = h0) := by
  refine CN.walk (plainFor_of_name pn1) ho (L0 := #[.val (.ref t), .val (.int (32 : Int32)), .val (.int (0 : Int32)), .val (.int (3 : Int32))]) (fun m => rfl) ?_
  intro pG e s m below meth cO T hlk hret hnm A0
  have K0 : Keep h0 h0 [] := Keep.refl _ _
  refine f_iloadN A0 d12_0 (pc' := 1) rfl rfl ?_
  refine f_callS A0 d12_1 (pc' := 4) rfl (wd hw 63 rfl) (wd hw 64 rfl) (wd hw 61 rfl) (wd hw 65 rfl) (by decide) pd1 [(.int (32 : Int32))] [] rfl rfl rfl 0 (Nat.le_of_eq rfl) (CN.pay (W := 0) A0 (m_can l Z a0 hw h0 n0 A0.old) (wd hw 65 rfl) (wd hw 61 rfl) (by decide) (by decide)) (kc := 0) (ks := 0) (by decide) (by decide) all0 (fun q => nomatch q) fun v91 T91 h91 L91 A91 K91 q91 => ?_
  obtain ⟨rfl, hh91⟩ := q91
  obtain rfl := hh91.symm
  show Wp pG e below _ T91 (mkF m 4 _ [(.int (1 : Int32))])
  refine f_ifY A91 d12_4 ((if0 _ _).trans (feq (by decide : ¬ (1 : Int32) = (0 : Int32))).2) (pc' := 9) (by decide) (by decide) ?_
  refine f_iloadN A91 d12_9 (pc' := 10) rfl rfl ?_
  refine f_iconst A91 d12_10 (pc' := 11) rfl 0 rfl ?_
  refine f_callS A91 d12_11 (pc' := 14) rfl (wd hw 66 rfl) (wd hw 67 rfl) (wd hw 68 rfl) (wd hw 69 rfl) (by decide) pd2 [(.int (0 : Int32)), (.int (0 : Int32))] [] rfl rfl rfl 0 (Nat.le_of_eq rfl) (CN.pay (W := 0) A91 (m_max l Z a0 hw (0 : Int32) (0 : Int32) h0 n0 A91.old) (wd hw 69 rfl) (wd hw 68 rfl) (by decide) (by decide)) (kc := 0) (ks := 0) (by decide) (by decide) all0 (fun q => nomatch q) fun v92 T92 h92 L92 A92 K92 q92 => ?_
  obtain ⟨e92, hh92⟩ := q92
  obtain rfl := hh92.symm
  rw [if_neg (by decide)] at e92
  subst e92
  show Wp pG e below _ T92 (mkF m 14 _ [(.int (0 : Int32))])
  refine f_istoreN A92 d12_14 (pc' := 15) rfl (L' := #[.val (.ref t), .val (.int (32 : Int32)), .val (.int (0 : Int32)), .val (.int (3 : Int32))]) rfl ?_
  refine f_iloadN A92 d12_15 (pc' := 16) rfl rfl ?_
  refine f_aloadN A92 d12_16 (pc' := 17) rfl rfl rfl ?_
  refine f_arraylength A92 d12_17 (pc' := 18) rfl V ?_
  refine f_callS A92 d12_18 (pc' := 21) rfl (wd hw 70 rfl) (wd hw 71 rfl) (wd hw 68 rfl) (wd hw 72 rfl) (by decide) pd2 [(.int (3 : Int32)), (.int (3 : Int32))] [] rfl rfl rfl 0 (Nat.le_of_eq rfl) (CN.pay (W := 0) A92 (m_min l Z a0 hw (3 : Int32) (3 : Int32) h0 n0 A92.old) (wd hw 72 rfl) (wd hw 68 rfl) (by decide) (by decide)) (kc := 0) (ks := 0) (by decide) (by decide) all0 (fun q => nomatch q) fun v93 T93 h93 L93 A93 K93 q93 => ?_
  obtain ⟨e93, hh93⟩ := q93
  obtain rfl := hh93.symm
  rw [if_neg (by decide)] at e93
  subst e93
  show Wp pG e below _ T93 (mkF m 21 _ [(.int (3 : Int32))])
  refine f_istoreN A93 d12_21 (pc' := 22) rfl (L' := #[.val (.ref t), .val (.int (32 : Int32)), .val (.int (0 : Int32)), .val (.int (3 : Int32))]) rfl ?_
  refine f_iloadN A93 d12_22 (pc' := 23) rfl rfl ?_
  refine f_iloadN A93 d12_23 (pc' := 24) rfl rfl ?_
  refine f_icY A93 d12_24 (tlt (by decide : (0 : Int32) < (3 : Int32))).1 (pc' := 29) (by decide) (by decide) ?_
  refine f_aloadN A93 d12_29 (pc' := 30) rfl rfl rfl ?_
  refine f_iloadN A93 d12_30 (pc' := 31) rfl rfl ?_
  refine f_iloadN A93 d12_31 (pc' := 32) rfl rfl ?_
  refine f_iloadN A93 d12_32 (pc' := 33) rfl rfl ?_
  refine f_callS A93 d12_33 (pc' := 36) rfl (wd hw 83 rfl) (wd hw 84 rfl) (wd hw 61 rfl) (wd hw 85 rfl) (by decide) pd5 [(.ref t), (.int (32 : Int32)), (.int (0 : Int32)), (.int (3 : Int32))] [] rfl rfl rfl 0 (Nat.le_of_eq rfl) (CN.pay (W := 0) A93 (m_ioc3 l Z a0 hw t kb c0 c1 c2 h0 n0 A93.old V r0 r1 r2) (wd hw 85 rfl) (wd hw 61 rfl) (by decide) (by decide)) (kc := 0) (ks := 0) (by decide) (by decide) all0 (fun q => nomatch q) fun v94 T94 h94 L94 A94 K94 q94 => ?_
  obtain ⟨rfl, hh94⟩ := q94
  obtain rfl := hh94.symm
  show Wp pG e below _ T94 (mkF m 36 _ [(.int (idxL [c0, c1, c2] 0))])
  exact f_retIN A94 hlk hret d12_36 (by decide) (by decide) K0 ⟨rfl, rfl⟩
set_option maxRecDepth 65536 in
set_option maxHeartbeats 40000000 in
theorem m_ii3 (l : Launch) (Z : State) (a0 : Array Value) (hw : ∀ d ∈ tables_1, d.before a0 Z = true) (x t : Addr) (c0 c1 c2 : Int32) (zc : Int32) (O2 : Sta Z Z.heap "java/lang/String" "COMPACT_STRINGS" "Z" (.int zc)) (P5 : ¬ zc = 0) (h0 : Heap) (n0 : Nat) (ho : Old Z n0 h0) (F : Str Z h0 x t [c0, c1, c2]) (r0 : ¬ c0 < 0 ∧ ¬ (255 : Int32) < c0) (r1 : ¬ c1 < 0 ∧ ¬ (255 : Int32) < c1) (r2 : ¬ c2 < 0 ∧ ¬ (255 : Int32) < c2) :
    CN l (⟨"java/lang/String", "indexOf", "(II)I"⟩ : MethodName) jdk_42_method_80_code 3 (some .int) [] ({ frames := 2, cells := 0, slots := 0, locals := 60 } : Room) Z n0 h0 #[(.ref x), (.int (32 : Int32)), (.int (0 : Int32))] [] (fun v h => v = some (.int (idxL [c0, c1, c2] 0)) ∧ h = h0) := by
  refine CN.walk (plainFor_of_name pn0) ho (L0 := #[.val (.ref x), .val (.int (32 : Int32)), .val (.int (0 : Int32))]) (fun m => rfl) ?_
  intro pG e s m below meth cO T hlk hret hnm A0
  have K0 : Keep h0 h0 [] := Keep.refl _ _
  obtain ⟨kb95, fv95, fc95, av95⟩ := F.open (lc r0.2 (lc r1.2 (lc r2.2 ln)))
  have av95 : Arv Z h0 t kb95 .byte (3 : Int32) [(.int (StrChars.lo8 c0)), (.int (StrChars.lo8 c1)), (.int (StrChars.lo8 c2))] (.int 0) := av95
  refine f_aloadN A0 d8_0 (pc' := 1) rfl rfl rfl ?_
  refine f_callV A0 (a := x) d8_1 (pc' := 4) rfl (wd hw 43 rfl) (wd hw 44 rfl) (nfS A0 (wd hw 46 rfl)) (wd hw 46 rfl) (wd hw 45 rfl) (by decide) F.exa pd3 [] [] rfl rfl rfl 0 (Nat.le_of_eq rfl) (CN.pay (W := 0) A0 (m_isLat l Z a0 hw x zc O2 P5 h0 n0 A0.old fc95) (wd hw 47 rfl) (wd hw 9 rfl) (by decide) (by decide)) (kc := 0) (ks := 0) (by decide) (by decide) all0 (fun q => nomatch q) fun v96 T96 h96 L96 A96 K96 q96 => ?_
  obtain ⟨rfl, hh96⟩ := q96
  obtain rfl := hh96.symm
  show Wp pG e below _ T96 (mkF m 4 _ [(.int (1 : Int32))])
  refine f_ifN A96 d8_4 ((if0 _ _).trans (feq (by decide : ¬ (1 : Int32) = (0 : Int32))).1) (pc' := 7) rfl ?_
  refine f_aloadN A96 d8_7 (pc' := 8) rfl rfl rfl ?_
  refine f_getF A96 d8_8 (pc' := 11) rfl (host := "") (Or.inl (wd hw 27 rfl)) Via.refl fv95 fun T97 A97 => ?_
  refine f_iloadN A97 d8_11 (pc' := 12) rfl rfl ?_
  refine f_iloadN A97 d8_12 (pc' := 13) rfl rfl ?_
  refine f_aloadN A97 d8_13 (pc' := 14) rfl rfl rfl ?_
  refine f_callV A97 (a := x) d8_14 (pc' := 17) rfl (wd hw 49 rfl) (wd hw 50 rfl) (nfS A97 (wd hw 52 rfl)) (wd hw 52 rfl) (wd hw 51 rfl) (by decide) F.exa pd4 [] [(.int (0 : Int32)), (.int (32 : Int32)), (.ref t)] rfl rfl rfl 3 (Nat.le_of_eq rfl) (payLen (W := 3) A97 hw (wd hw 8 rfl) F O2 P5 (by decide) (by decide)) (kc := 0) (ks := 0) (by decide) (by decide) all0 (fun q => nomatch q) fun v98 T98 h98 L98 A98 K98 q98 => ?_
  obtain ⟨rfl, hh98⟩ := q98
  obtain rfl := hh98.symm
  show Wp pG e below _ T98 (mkF m 17 _ [(.int (3 : Int32)), (.int (0 : Int32)), (.int (32 : Int32)), (.ref t)])
  refine f_callS A98 d8_17 (pc' := 20) rfl (wd hw 59 rfl) (wd hw 60 rfl) (wd hw 61 rfl) (wd hw 62 rfl) (by decide) pd5 [(.ref t), (.int (32 : Int32)), (.int (0 : Int32)), (.int (3 : Int32))] [] rfl rfl rfl 0 (Nat.le_of_eq rfl) (CN.pay (W := 0) A98 (m_lio3 l Z a0 hw t kb95 c0 c1 c2 h0 n0 A98.old av95 r0 r1 r2) (wd hw 62 rfl) (wd hw 61 rfl) (by decide) (by decide)) (kc := 0) (ks := 0) (by decide) (by decide) all0 (fun q => nomatch q) fun v99 T99 h99 L99 A99 K99 q99 => ?_
  obtain ⟨rfl, hh99⟩ := q99
  obtain rfl := hh99.symm
  show Wp pG e below _ T99 (mkF m 20 _ [(.int (idxL [c0, c1, c2] 0))])
  refine f_goto A99 d8_20 (pc' := 36) (by decide) (by decide) ?_
  exact f_retIN A99 hlk hret d8_36 (by decide) (by decide) K0 ⟨rfl, rfl⟩
set_option maxRecDepth 65536 in
set_option maxHeartbeats 40000000 in
theorem m_i3 (l : Launch) (Z : State) (a0 : Array Value) (hw : ∀ d ∈ tables_1, d.before a0 Z = true) (x t : Addr) (c0 c1 c2 : Int32) (zc : Int32) (O2 : Sta Z Z.heap "java/lang/String" "COMPACT_STRINGS" "Z" (.int zc)) (P5 : ¬ zc = 0) (h0 : Heap) (n0 : Nat) (ho : Old Z n0 h0) (F : Str Z h0 x t [c0, c1, c2]) (r0 : ¬ c0 < 0 ∧ ¬ (255 : Int32) < c0) (r1 : ¬ c1 < 0 ∧ ¬ (255 : Int32) < c1) (r2 : ¬ c2 < 0 ∧ ¬ (255 : Int32) < c2) :
    CN l (⟨"java/lang/String", "indexOf", "(I)I"⟩ : MethodName) jdk_42_method_79_code 2 (some .int) [] ({ frames := 3, cells := 0, slots := 0, locals := 80 } : Room) Z n0 h0 #[(.ref x), (.int (32 : Int32))] [] (fun v h => v = some (.int (idxL [c0, c1, c2] 0)) ∧ h = h0) := by
  refine CN.walk (plainFor_of_name pn0) ho (L0 := #[.val (.ref x), .val (.int (32 : Int32))]) (fun m => rfl) ?_
  intro pG e s m below meth cO T hlk hret hnm A0
  have K0 : Keep h0 h0 [] := Keep.refl _ _
  refine f_aloadN A0 d7_0 (pc' := 1) rfl rfl rfl ?_
  refine f_iloadN A0 d7_1 (pc' := 2) rfl rfl ?_
  refine f_iconst A0 d7_2 (pc' := 3) rfl 0 rfl ?_
  refine f_callV A0 (a := x) d7_3 (pc' := 6) rfl (wd hw 38 rfl) (wd hw 39 rfl) (nfS A0 (wd hw 41 rfl)) (wd hw 41 rfl) (wd hw 40 rfl) (by decide) F.exa pd2 [(.int (32 : Int32)), (.int (0 : Int32))] [] rfl rfl rfl 0 (Nat.le_of_eq rfl) (CN.pay (W := 0) A0 (m_ii3 l Z a0 hw x t c0 c1 c2 zc O2 P5 h0 n0 A0.old F r0 r1 r2) (wd hw 42 rfl) (wd hw 9 rfl) (by decide) (by decide)) (kc := 0) (ks := 0) (by decide) (by decide) all0 (fun q => nomatch q) fun v100 T100 h100 L100 A100 K100 q100 => ?_
  obtain ⟨rfl, hh100⟩ := q100
  obtain rfl := hh100.symm
  show Wp pG e below _ T100 (mkF m 6 _ [(.int (idxL [c0, c1, c2] 0))])
  exact f_retIN A100 hlk hret d7_6 (by decide) (by decide) K0 ⟨rfl, rfl⟩
set_option maxRecDepth 65536 in
set_option maxHeartbeats 40000000 in
theorem m_fam3 (l : Launch) (Z : State) (a0 : Array Value) (hw : ∀ d ∈ tables_1, d.before a0 Z = true) (x t : Addr) (c0 c1 c2 : Int32) (zc : Int32) (O2 : Sta Z Z.heap "java/lang/String" "COMPACT_STRINGS" "Z" (.int zc)) (P5 : ¬ zc = 0) (r : Int32) (h0 : Heap) (n0 : Nat) (ho : Old Z n0 h0) (F : Str Z h0 x t [c0, c1, c2]) (r0 : ¬ c0 < 0 ∧ ¬ (255 : Int32) < c0) (r1 : ¬ c1 < 0 ∧ ¬ (255 : Int32) < c1) (r2 : ¬ c2 < 0 ∧ ¬ (255 : Int32) < c2) (hr : (if 0 < idxL [c0, c1, c2] 0 then 1 else 0) = r) :
    CN l (⟨"com/example/confinement/confinement/monitor/Sites", "isFamily", "(Ljava/lang/String;)Z"⟩ : MethodName) prog_13_method_2_code 1 (some .boolean) [] ({ frames := 4, cells := 0, slots := 0, locals := 100 } : Room) Z n0 h0 #[(.ref x)] [] (fun v h => v = some (.int r) ∧ h = h0) := by
  refine CN.walk (plainFor_of_name pn2) ho (L0 := #[.val (.ref x)]) (fun m => rfl) ?_
  intro pG e s m below meth cO T hlk hret hnm A0
  have K0 : Keep h0 h0 [] := Keep.refl _ _
  refine f_aloadN A0 d6_0 (pc' := 1) rfl rfl rfl ?_
  refine f_bipush A0 d6_1 (pc' := 3) rfl 32 rfl ?_
  refine f_callV A0 (a := x) d6_3 (pc' := 6) rfl (wd hw 33 rfl) (wd hw 34 rfl) (nfS A0 (wd hw 36 rfl)) (wd hw 36 rfl) (wd hw 35 rfl) (by decide) F.exa pd6 [(.int (32 : Int32))] [] rfl rfl rfl 0 (Nat.le_of_eq rfl) (CN.pay (W := 0) A0 (m_i3 l Z a0 hw x t c0 c1 c2 zc O2 P5 h0 n0 A0.old F r0 r1 r2) (wd hw 37 rfl) (wd hw 9 rfl) (by decide) (by decide)) (kc := 0) (ks := 0) (by decide) (by decide) all0 (fun q => nomatch q) fun v101 T101 h101 L101 A101 K101 q101 => ?_
  obtain ⟨rfl, hh101⟩ := q101
  obtain rfl := hh101.symm
  show Wp pG e below _ T101 (mkF m 6 _ [(.int (idxL [c0, c1, c2] 0))])
  by_cases q : (0 : Int32) < (idxL [c0, c1, c2] 0)
  · refine f_ifN A101 d6_6 ((if0 _ _).trans (tlt q).2.2.2) (pc' := 9) rfl ?_
    refine f_iconst A101 d6_9 (pc' := 10) rfl 1 rfl ?_
    refine f_goto A101 d6_10 (pc' := 14) (by decide) (by decide) ?_
    exact f_retBN A101 hlk hret d6_14 (by decide) (1 : Int32) (by decide) (by decide) (by decide) K0 ⟨by rw [← hr, if_pos q], rfl⟩
  · refine f_ifY A101 d6_6 ((if0 _ _).trans (flt q).2.2.2) (pc' := 13) (by decide) (by decide) ?_
    refine f_iconst A101 d6_13 (pc' := 14) rfl 0 rfl ?_
    exact f_retBN A101 hlk hret d6_14 (by decide) (0 : Int32) (by decide) (by decide) (by decide) K0 ⟨by rw [← hr, if_neg q], rfl⟩
theorem d2_59 : decode method_3_code 59 = .ok (.iload_n 0, 1) := by decide +kernel
theorem d2_60 : decode method_3_code 60 = .ok (.iconst 3, 1) := by decide +kernel
theorem d2_61 : decode method_3_code 61 = .ok (.if_icmp .ne 26, 3) := by decide +kernel
theorem d2_64 : decode method_3_code 64 = .ok (.new 7, 3) := by decide +kernel
theorem d2_67 : decode method_3_code 67 = .ok (.dup, 1) := by decide +kernel
theorem d2_68 : decode method_3_code 68 = .ok (.iconst 3, 1) := by decide +kernel
theorem d2_69 : decode method_3_code 69 = .ok (.newarray .char, 2) := by decide +kernel
theorem d2_71 : decode method_3_code 71 = .ok (.dup, 1) := by decide +kernel
theorem d2_72 : decode method_3_code 72 = .ok (.iconst 0, 1) := by decide +kernel
theorem d2_73 : decode method_3_code 73 = .ok (.iload_n 1, 1) := by decide +kernel
theorem d2_74 : decode method_3_code 74 = .ok (.castore, 1) := by decide +kernel
theorem d2_75 : decode method_3_code 75 = .ok (.dup, 1) := by decide +kernel
theorem d2_76 : decode method_3_code 76 = .ok (.iconst 1, 1) := by decide +kernel
theorem d2_77 : decode method_3_code 77 = .ok (.iload_n 2, 1) := by decide +kernel
theorem d2_78 : decode method_3_code 78 = .ok (.castore, 1) := by decide +kernel
theorem d2_79 : decode method_3_code 79 = .ok (.dup, 1) := by decide +kernel
theorem d2_80 : decode method_3_code 80 = .ok (.iconst 2, 1) := by decide +kernel
theorem d2_81 : decode method_3_code 81 = .ok (.iload_n 3, 1) := by decide +kernel
theorem d2_82 : decode method_3_code 82 = .ok (.castore, 1) := by decide +kernel
theorem d2_83 : decode method_3_code 83 = .ok (.invokespecial 9, 3) := by decide +kernel
theorem d2_86 : decode method_3_code 86 = .ok (.areturn, 1) := by decide +kernel
set_option maxRecDepth 65536 in
set_option maxHeartbeats 40000000 in
theorem m_make3 (l : Launch) (Z : State) (a0 : Array Value) (hw : ∀ d ∈ tables_1, d.before a0 Z = true) (c0 c1 c2 c3 c4 : Int32) (zc : Int32) (O2 : Sta Z Z.heap "java/lang/String" "COMPACT_STRINGS" "Z" (.int zc)) (P5 : ¬ zc = 0) (h0 : Heap) (n0 : Nat) (ho : Old Z n0 h0) (hEL : EW Z a0 ELs) (r0 : ¬ c0 < 0 ∧ ¬ (255 : Int32) < c0) (r1 : ¬ c1 < 0 ∧ ¬ (255 : Int32) < c1) (r2 : ¬ c2 < 0 ∧ ¬ (255 : Int32) < c2) (r3 : ¬ c3 < 0 ∧ ¬ (255 : Int32) < c3) (r4 : ¬ c4 < 0 ∧ ¬ (255 : Int32) < c4) :
    CW l (⟨"com/example/confinement/confinement/monitor/SitesIsFamilyPinLaw", "make", "(ICCCCC)Ljava/lang/String;"⟩ : MethodName) method_3_code 6 (some (.object "java/lang/String")) [] ({ frames := 5, cells := 5, slots := 20, locals := 90 } : Room) Z ELs [] n0 h0 #[(.int (3 : Int32)), (.int c0), (.int c1), (.int c2), (.int c3), (.int c4)] [] (fun v h => ∃ (x t : Addr), v = some (.ref x) ∧ h0.size ≤ x ∧ Str Z h x t [c0, c1, c2]) := by
  refine CW.walk (plainFor_of_name pn3) ho (L0 := #[.val (.int (3 : Int32)), .val (.int c0), .val (.int c1), .val (.int c2), .val (.int c3), .val (.int c4)]) (fun m => rfl) ?_
  intro pG e s m below meth cO T hlk hret hnm hSL A0
  have K0 : Keep h0 h0 [] := Keep.refl _ _
  refine f_iloadN A0 d2_0 (pc' := 1) rfl rfl ?_
  refine f_ifY A0 d2_1 ((if0 _ _).trans (feq (by decide : ¬ (3 : Int32) = (0 : Int32))).2) (pc' := 15) (by decide) (by decide) ?_
  refine f_iloadN A0 d2_15 (pc' := 16) rfl rfl ?_
  refine f_iconst A0 d2_16 (pc' := 17) rfl 1 rfl ?_
  refine f_icY A0 d2_17 (feq (by decide : ¬ (3 : Int32) = (1 : Int32))).2 (pc' := 35) (by decide) (by decide) ?_
  refine f_iloadN A0 d2_35 (pc' := 36) rfl rfl ?_
  refine f_iconst A0 d2_36 (pc' := 37) rfl 2 rfl ?_
  refine f_icY A0 d2_37 (feq (by decide : ¬ (3 : Int32) = (2 : Int32))).2 (pc' := 59) (by decide) (by decide) ?_
  refine f_iloadN A0 d2_59 (pc' := 60) rfl rfl ?_
  refine f_iconst A0 d2_60 (pc' := 61) rfl 3 rfl ?_
  refine f_icN A0 d2_61 (teq (by decide : (3 : Int32) = (3 : Int32))).2 (pc' := 64) rfl ?_
  refine f_new A0 d2_64 (pc' := 67) rfl (wd hw 7 rfl) (wd hw 8 rfl) (wd hw 9 rfl) (by decide) (by decide) fun a102 T102 h102 g102 A102 E102 X102 D102 => ?_
  have z102 : n0 ≤ a102 := Nat.le_trans A0.sz (Nat.le_of_eq g102.symm)
  have y102 : h0.size ≤ a102 := Nat.le_trans K0.1 (Nat.le_of_eq g102.symm)
  have Q103 : Keep h0 h102 [] := K0.ext E102
  have s102 := Safe.ext E102 (A0.ch rfl).1 (Safe.new (Nat.le_of_eq g102.symm))
  refine f_dup A102 d2_67 (pc' := 68) rfl rfl ?_
  refine f_iconst A102 d2_68 (pc' := 69) rfl 3 rfl ?_
  refine f_newP A102 3 d2_69 (pc' := 71) rfl (wd hw 10 rfl) (by decide) (by decide) (by decide) (by decide) (by decide) (ad := "[C") (by decide) fun a104 T104 h104 k104 g104 A104 E104 F104 X104 => ?_
  have z104 : n0 ≤ a104 := Nat.le_trans A102.sz (Nat.le_of_eq g104.symm)
  have y104 : h0.size ≤ a104 := Nat.le_trans Q103.1 (Nat.le_of_eq g104.symm)
  have Q105 : Keep h0 h104 [] := Q103.ext E104
  have V104 : Arv Z h104 a104 k104 .char (3 : Int32) [(.int (0 : Int32)), (.int (0 : Int32)), (.int (0 : Int32))] (.int (0 : Int32)) := F104.pad (pad_rep [] (.int (0 : Int32)) 3)
  refine f_dup A104 d2_71 (pc' := 72) rfl rfl ?_
  refine f_iconst A104 d2_72 (pc' := 73) rfl 0 rfl ?_
  refine f_iloadN A104 d2_73 (pc' := 74) rfl rfl ?_
  refine f_castore A104 d2_74 (pc' := 75) rfl V104 ⟨by decide, by decide⟩ 0 (by decide) (Nat.le_of_ble_eq_true rfl) c0 (nar_id (by have := of_lat r0; omega)) (vs' := [(.int c0), (.int (0 : Int32)), (.int (0 : Int32))]) rfl z104 (fun _ => (Safe.exa A104.hZ.alike X104 (by decide) (by decide))) fun T106 h106 A106 K106 V106 => ?_
  have Q107 : Keep h0 h106 [] := Q105.trans K106 (allS (Or.inr y104) all0)
  refine f_dup A106 d2_75 (pc' := 76) rfl rfl ?_
  refine f_iconst A106 d2_76 (pc' := 77) rfl 1 rfl ?_
  refine f_iloadN A106 d2_77 (pc' := 78) rfl rfl ?_
  have c109 := (X104.keep K106)
  refine f_castore A106 d2_78 (pc' := 79) rfl V106 ⟨by decide, by decide⟩ 1 (by decide) (Nat.le_of_ble_eq_true rfl) c1 (nar_id (by have := of_lat r1; omega)) (vs' := [(.int c0), (.int c1), (.int (0 : Int32))]) rfl z104 (fun _ => (Safe.exa A106.hZ.alike c109 (by decide) (by decide))) fun T108 h108 A108 K108 V108 => ?_
  have Q110 : Keep h0 h108 [] := Q107.trans K108 (allS (Or.inr y104) all0)
  refine f_dup A108 d2_79 (pc' := 80) rfl rfl ?_
  refine f_iconst A108 d2_80 (pc' := 81) rfl 2 rfl ?_
  refine f_iloadN A108 d2_81 (pc' := 82) rfl rfl ?_
  have c112 := (c109.keep K108)
  refine f_castore A108 d2_82 (pc' := 83) rfl V108 ⟨by decide, by decide⟩ 2 (by decide) (Nat.le_of_ble_eq_true rfl) c2 (nar_id (by have := of_lat r2; omega)) (vs' := [(.int c0), (.int c1), (.int c2)]) rfl z104 (fun _ => (Safe.exa A108.hZ.alike c112 (by decide) (by decide))) fun T111 h111 A111 K111 V111 => ?_
  have Q113 : Keep h0 h111 [] := Q110.trans K111 (allS (Or.inr y104) all0)
  have c114 := ((((X102.ext E104).keep K106).keep K108).keep K111)
  have c115 := (((((show Fld Z h102 a102 "java/lang/String" "value" "[B" .null from D102 (Or.inr (wd hw 23 rfl)) (ty := (.array .byte)) (by decide)).ext E104).keep K106 (ninS (Nat.ne_of_lt (Nat.lt_of_lt_of_le X102.lt (Nat.le_of_eq g104.symm))) nin0)).keep K108 (ninS (Nat.ne_of_lt (Nat.lt_of_lt_of_le X102.lt (Nat.le_of_eq g104.symm))) nin0)).keep K111 (ninS (Nat.ne_of_lt (Nat.lt_of_lt_of_le X102.lt (Nat.le_of_eq g104.symm))) nin0))
  have c116 := (((((show Fld Z h102 a102 "java/lang/String" "coder" "B" (.int (0 : Int32)) from D102 (Or.inr (wd hw 24 rfl)) (ty := .byte) (by decide)).ext E104).keep K106 (ninS (Nat.ne_of_lt (Nat.lt_of_lt_of_le X102.lt (Nat.le_of_eq g104.symm))) nin0)).keep K108 (ninS (Nat.ne_of_lt (Nat.lt_of_lt_of_le X102.lt (Nat.le_of_eq g104.symm))) nin0)).keep K111 (ninS (Nat.ne_of_lt (Nat.lt_of_lt_of_le X102.lt (Nat.le_of_eq g104.symm))) nin0))
  have c118 := (Safe.keep K111 (sfS (Safe.exa A108.hZ.alike c112 (by decide) (by decide)) sf0) (A108.ch rfl).1 (Safe.keep K108 (sfS (Safe.exa A106.hZ.alike c109 (by decide) (by decide)) sf0) (A106.ch rfl).1 (Safe.keep K106 (sfS (Safe.exa A104.hZ.alike X104 (by decide) (by decide)) sf0) (A104.ch rfl).1 (Safe.ext E104 (A102.ch rfl).1 s102))))
  refine f_callI A111 (a := a102) d2_83 (pc' := 86) rfl rfl (wd hw 11 rfl) (wd hw 12 rfl) (wd hw 13 rfl) (by decide) pd7 [(.ref a104)] [(.ref a102)] rfl rfl rfl 1 (Nat.le_of_eq rfl) (payNew (W := 1) A111 hw (wd hw 8 rfl) (cs := [c0, c1, c2]) 3 z102 c114 c115 c116 V111 O2 P5 rfl rfl (by decide) (by decide) (lc r0 (lc r1 (lc r2 ln))) (by decide) (by decide)) (kc := 1) (ks := 3) (by decide) (by decide) (allS z102 all0) (fun _ => (sfS c118 sf0)) fun v117 T117 h117 L117 A117 K117 q117 => ?_
  have Q119 : Keep h0 h117 [] := Q113.trans K117 (allS (Or.inr y102) all0)
  obtain ⟨rfl, t117, tz117, tg117, tn117, G117⟩ := q117
  show Wp pG e below _ T117 (mkF m 86 _ [(.ref a102)])
  exact f_retRW A117 hEL hlk hret d2_86 rfl rfl (by decide) (by decide) Q119 ⟨a102, t117, rfl, y102, G117⟩
set_option maxRecDepth 65536 in
set_option maxHeartbeats 40000000 in
theorem m_ioc4 (l : Launch) (Z : State) (a0 : Array Value) (hw : ∀ d ∈ tables_1, d.before a0 Z = true) (t : Addr) (kb : ClassId) (c0 c1 c2 c3 : Int32) (h0 : Heap) (n0 : Nat) (ho : Old Z n0 h0) (V : Arv Z h0 t kb .byte 4 [(.int (StrChars.lo8 c0)), (.int (StrChars.lo8 c1)), (.int (StrChars.lo8 c2)), (.int (StrChars.lo8 c3))] (.int 0)) (r0 : ¬ c0 < 0 ∧ ¬ (255 : Int32) < c0) (r1 : ¬ c1 < 0 ∧ ¬ (255 : Int32) < c1) (r2 : ¬ c2 < 0 ∧ ¬ (255 : Int32) < c2) (r3 : ¬ c3 < 0 ∧ ¬ (255 : Int32) < c3) :
    CN l (⟨"java/lang/StringLatin1", "indexOfChar", "([BIII)I"⟩ : MethodName) jdk_43_method_23_code 6 (some .int) [] ({ frames := 0, cells := 0, slots := 0, locals := 0 } : Room) Z n0 h0 #[(.ref t), (.int (32 : Int32)), (.int (0 : Int32)), (.int (4 : Int32))] [] (fun v h => v = some (.int (idxL [c0, c1, c2, c3] 0)) ∧ h = h0) := by
  refine CN.walk (plainFor_of_name pn1) ho (L0 := #[.val (.ref t), .val (.int (32 : Int32)), .val (.int (0 : Int32)), .val (.int (4 : Int32)), .unset, .unset]) (fun m => rfl) ?_
  intro pG e s m below meth cO T hlk hret hnm A0
  have K0 : Keep h0 h0 [] := Keep.refl _ _
  refine f_iloadN A0 d19_0 (pc' := 1) rfl rfl ?_
  refine f_i2b A0 d19_1 (pc' := 2) rfl (32 : Int32) (by decide) ?_
  refine f_istore A0 d19_2 (pc' := 4) rfl (L' := #[.val (.ref t), .val (.int (32 : Int32)), .val (.int (0 : Int32)), .val (.int (4 : Int32)), .val (.int (32 : Int32)), .unset]) rfl ?_
  refine f_iloadN A0 d19_4 (pc' := 5) rfl rfl ?_
  refine f_istore A0 d19_5 (pc' := 7) rfl (L' := #[.val (.ref t), .val (.int (32 : Int32)), .val (.int (0 : Int32)), .val (.int (4 : Int32)), .val (.int (32 : Int32)), .val (.int (0 : Int32))]) rfl ?_
  refine f_iload A0 d19_7 (pc' := 9) rfl rfl ?_
  refine f_iloadN A0 d19_9 (pc' := 10) rfl rfl ?_
  refine f_icN A0 d19_10 (tlt (by decide : (0 : Int32) < (4 : Int32))).2.1 (pc' := 13) rfl ?_
  refine f_aloadN A0 d19_13 (pc' := 14) rfl rfl rfl ?_
  refine f_iload A0 d19_14 (pc' := 16) rfl rfl ?_
  refine f_baload A0 d19_16 (pc' := 17) rfl V ⟨by decide, by decide⟩ rfl ?_
  refine f_iload A0 d19_17 (pc' := 19) rfl rfl ?_
  by_cases q0 : c0 = 32
  · refine f_icN A0 d19_19 (teq ((lo32 r0).mpr q0)).2 (pc' := 22) rfl ?_
    refine f_iload A0 d19_22 (pc' := 24) rfl rfl ?_
    exact f_retIN A0 hlk hret d19_24 (by decide) (by decide) K0 ⟨by simp [idxL, q0], rfl⟩
  · refine f_icY A0 d19_19 (feq (fun q => q0 ((lo32 r0).mp q))).2 (pc' := 25) (by decide) (by decide) ?_
    refine f_iinc A0 d19_25 (pc' := 28) rfl rfl (1 : Int32) (by decide) (L' := #[.val (.ref t), .val (.int (32 : Int32)), .val (.int (0 : Int32)), .val (.int (4 : Int32)), .val (.int (32 : Int32)), .val (.int (1 : Int32))]) rfl ?_
    refine f_goto A0 d19_28 (pc' := 7) (by decide) (by decide) ?_
    refine f_iload A0 d19_7 (pc' := 9) rfl rfl ?_
    refine f_iloadN A0 d19_9 (pc' := 10) rfl rfl ?_
    refine f_icN A0 d19_10 (tlt (by decide : (1 : Int32) < (4 : Int32))).2.1 (pc' := 13) rfl ?_
    refine f_aloadN A0 d19_13 (pc' := 14) rfl rfl rfl ?_
    refine f_iload A0 d19_14 (pc' := 16) rfl rfl ?_
    refine f_baload A0 d19_16 (pc' := 17) rfl V ⟨by decide, by decide⟩ rfl ?_
    refine f_iload A0 d19_17 (pc' := 19) rfl rfl ?_
    by_cases q1 : c1 = 32
    · refine f_icN A0 d19_19 (teq ((lo32 r1).mpr q1)).2 (pc' := 22) rfl ?_
      refine f_iload A0 d19_22 (pc' := 24) rfl rfl ?_
      exact f_retIN A0 hlk hret d19_24 (by decide) (by decide) K0 ⟨by simp [idxL, q0, q1], rfl⟩
    · refine f_icY A0 d19_19 (feq (fun q => q1 ((lo32 r1).mp q))).2 (pc' := 25) (by decide) (by decide) ?_
      refine f_iinc A0 d19_25 (pc' := 28) rfl rfl (2 : Int32) (by decide) (L' := #[.val (.ref t), .val (.int (32 : Int32)), .val (.int (0 : Int32)), .val (.int (4 : Int32)), .val (.int (32 : Int32)), .val (.int (2 : Int32))]) rfl ?_
      refine f_goto A0 d19_28 (pc' := 7) (by decide) (by decide) ?_
      refine f_iload A0 d19_7 (pc' := 9) rfl rfl ?_
      refine f_iloadN A0 d19_9 (pc' := 10) rfl rfl ?_
      refine f_icN A0 d19_10 (tlt (by decide : (2 : Int32) < (4 : Int32))).2.1 (pc' := 13) rfl ?_
      refine f_aloadN A0 d19_13 (pc' := 14) rfl rfl rfl ?_
      refine f_iload A0 d19_14 (pc' := 16) rfl rfl ?_
      refine f_baload A0 d19_16 (pc' := 17) rfl V ⟨by decide, by decide⟩ rfl ?_
      refine f_iload A0 d19_17 (pc' := 19) rfl rfl ?_
      by_cases q2 : c2 = 32
      · refine f_icN A0 d19_19 (teq ((lo32 r2).mpr q2)).2 (pc' := 22) rfl ?_
        refine f_iload A0 d19_22 (pc' := 24) rfl rfl ?_
        exact f_retIN A0 hlk hret d19_24 (by decide) (by decide) K0 ⟨by simp [idxL, q0, q1, q2], rfl⟩
      · refine f_icY A0 d19_19 (feq (fun q => q2 ((lo32 r2).mp q))).2 (pc' := 25) (by decide) (by decide) ?_
        refine f_iinc A0 d19_25 (pc' := 28) rfl rfl (3 : Int32) (by decide) (L' := #[.val (.ref t), .val (.int (32 : Int32)), .val (.int (0 : Int32)), .val (.int (4 : Int32)), .val (.int (32 : Int32)), .val (.int (3 : Int32))]) rfl ?_
        refine f_goto A0 d19_28 (pc' := 7) (by decide) (by decide) ?_
        refine f_iload A0 d19_7 (pc' := 9) rfl rfl ?_
        refine f_iloadN A0 d19_9 (pc' := 10) rfl rfl ?_
        refine f_icN A0 d19_10 (tlt (by decide : (3 : Int32) < (4 : Int32))).2.1 (pc' := 13) rfl ?_
        refine f_aloadN A0 d19_13 (pc' := 14) rfl rfl rfl ?_
        refine f_iload A0 d19_14 (pc' := 16) rfl rfl ?_
        refine f_baload A0 d19_16 (pc' := 17) rfl V ⟨by decide, by decide⟩ rfl ?_
        refine f_iload A0 d19_17 (pc' := 19) rfl rfl ?_
        by_cases q3 : c3 = 32
        · refine f_icN A0 d19_19 (teq ((lo32 r3).mpr q3)).2 (pc' := 22) rfl ?_
          refine f_iload A0 d19_22 (pc' := 24) rfl rfl ?_
          exact f_retIN A0 hlk hret d19_24 (by decide) (by decide) K0 ⟨by simp [idxL, q0, q1, q2, q3], rfl⟩
        · refine f_icY A0 d19_19 (feq (fun q => q3 ((lo32 r3).mp q))).2 (pc' := 25) (by decide) (by decide) ?_
          refine f_iinc A0 d19_25 (pc' := 28) rfl rfl (4 : Int32) (by decide) (L' := #[.val (.ref t), .val (.int (32 : Int32)), .val (.int (0 : Int32)), .val (.int (4 : Int32)), .val (.int (32 : Int32)), .val (.int (4 : Int32))]) rfl ?_
          refine f_goto A0 d19_28 (pc' := 7) (by decide) (by decide) ?_
          refine f_iload A0 d19_7 (pc' := 9) rfl rfl ?_
          refine f_iloadN A0 d19_9 (pc' := 10) rfl rfl ?_
          refine f_icY A0 d19_10 (flt (by decide : ¬ (4 : Int32) < (4 : Int32))).2.1 (pc' := 31) (by decide) (by decide) ?_
          refine f_iconst A0 d19_31 (pc' := 32) rfl (-1) rfl ?_
          exact f_retIN A0 hlk hret d19_32 (by decide) (by decide) K0 ⟨by simp [idxL, q0, q1, q2, q3], rfl⟩
set_option maxRecDepth 65536 in
set_option maxHeartbeats 40000000 in
theorem m_lio4 (l : Launch) (Z : State) (a0 : Array Value) (hw : ∀ d ∈ tables_1, d.before a0 Z = true) (t : Addr) (kb : ClassId) (c0 c1 c2 c3 : Int32) (h0 : Heap) (n0 : Nat) (ho : Old Z n0 h0) (V : Arv Z h0 t kb .byte 4 [(.int (StrChars.lo8 c0)), (.int (StrChars.lo8 c1)), (.int (StrChars.lo8 c2)), (.int (StrChars.lo8 c3))] (.int 0)) (r0 : ¬ c0 < 0 ∧ ¬ (255 : Int32) < c0) (r1 : ¬ c1 < 0 ∧ ¬ (255 : Int32) < c1) (r2 : ¬ c2 < 0 ∧ ¬ (255 : Int32) < c2) (r3 : ¬ c3 < 0 ∧ ¬ (255 : Int32) < c3) :
    CN l (⟨"java/lang/StringLatin1", "indexOf", "([BIII)I"⟩ : MethodName) jdk_43_method_22_code 4 (some .int) [] ({ frames := 1, cells := 0, slots := 0, locals := 30 } : Room) Z n0 h0 #[(.ref t), (.int (32 : Int32)), (.int (0 : Int32)), (.int (4 : Int32))] [] (fun v h => v = some (.int (idxL [c0, c1, c2, c3] 0)) ∧ h = h0) := by
  refine CN.walk (plainFor_of_name pn1) ho (L0 := #[.val (.ref t), .val (.int (32 : Int32)), .val (.int (0 : Int32)), .val (.int (4 : Int32))]) (fun m => rfl) ?_
  intro pG e s m below meth cO T hlk hret hnm A0
  have K0 : Keep h0 h0 [] := Keep.refl _ _
  refine f_iloadN A0 d12_0 (pc' := 1) rfl rfl ?_
  refine f_callS A0 d12_1 (pc' := 4) rfl (wd hw 63 rfl) (wd hw 64 rfl) (wd hw 61 rfl) (wd hw 65 rfl) (by decide) pd1 [(.int (32 : Int32))] [] rfl rfl rfl 0 (Nat.le_of_eq rfl) (CN.pay (W := 0) A0 (m_can l Z a0 hw h0 n0 A0.old) (wd hw 65 rfl) (wd hw 61 rfl) (by decide) (by decide)) (kc := 0) (ks := 0) (by decide) (by decide) all0 (fun q => nomatch q) fun v120 T120 h120 L120 A120 K120 q120 => ?_
  obtain ⟨rfl, hh120⟩ := q120
  obtain rfl := hh120.symm
  show Wp pG e below _ T120 (mkF m 4 _ [(.int (1 : Int32))])
  refine f_ifY A120 d12_4 ((if0 _ _).trans (feq (by decide : ¬ (1 : Int32) = (0 : Int32))).2) (pc' := 9) (by decide) (by decide) ?_
  refine f_iloadN A120 d12_9 (pc' := 10) rfl rfl ?_
  refine f_iconst A120 d12_10 (pc' := 11) rfl 0 rfl ?_
  refine f_callS A120 d12_11 (pc' := 14) rfl (wd hw 66 rfl) (wd hw 67 rfl) (wd hw 68 rfl) (wd hw 69 rfl) (by decide) pd2 [(.int (0 : Int32)), (.int (0 : Int32))] [] rfl rfl rfl 0 (Nat.le_of_eq rfl) (CN.pay (W := 0) A120 (m_max l Z a0 hw (0 : Int32) (0 : Int32) h0 n0 A120.old) (wd hw 69 rfl) (wd hw 68 rfl) (by decide) (by decide)) (kc := 0) (ks := 0) (by decide) (by decide) all0 (fun q => nomatch q) fun v121 T121 h121 L121 A121 K121 q121 => ?_
  obtain ⟨e121, hh121⟩ := q121
  obtain rfl := hh121.symm
  rw [if_neg (by decide)] at e121
  subst e121
  show Wp pG e below _ T121 (mkF m 14 _ [(.int (0 : Int32))])
  refine f_istoreN A121 d12_14 (pc' := 15) rfl (L' := #[.val (.ref t), .val (.int (32 : Int32)), .val (.int (0 : Int32)), .val (.int (4 : Int32))]) rfl ?_
  refine f_iloadN A121 d12_15 (pc' := 16) rfl rfl ?_
  refine f_aloadN A121 d12_16 (pc' := 17) rfl rfl rfl ?_
  refine f_arraylength A121 d12_17 (pc' := 18) rfl V ?_
  refine f_callS A121 d12_18 (pc' := 21) rfl (wd hw 70 rfl) (wd hw 71 rfl) (wd hw 68 rfl) (wd hw 72 rfl) (by decide) pd2 [(.int (4 : Int32)), (.int (4 : Int32))] [] rfl rfl rfl 0 (Nat.le_of_eq rfl) (CN.pay (W := 0) A121 (m_min l Z a0 hw (4 : Int32) (4 : Int32) h0 n0 A121.old) (wd hw 72 rfl) (wd hw 68 rfl) (by decide) (by decide)) (kc := 0) (ks := 0) (by decide) (by decide) all0 (fun q => nomatch q) fun v122 T122 h122 L122 A122 K122 q122 => ?_
  obtain ⟨e122, hh122⟩ := q122
  obtain rfl := hh122.symm
  rw [if_neg (by decide)] at e122
  subst e122
  show Wp pG e below _ T122 (mkF m 21 _ [(.int (4 : Int32))])
  refine f_istoreN A122 d12_21 (pc' := 22) rfl (L' := #[.val (.ref t), .val (.int (32 : Int32)), .val (.int (0 : Int32)), .val (.int (4 : Int32))]) rfl ?_
  refine f_iloadN A122 d12_22 (pc' := 23) rfl rfl ?_
  refine f_iloadN A122 d12_23 (pc' := 24) rfl rfl ?_
  refine f_icY A122 d12_24 (tlt (by decide : (0 : Int32) < (4 : Int32))).1 (pc' := 29) (by decide) (by decide) ?_
  refine f_aloadN A122 d12_29 (pc' := 30) rfl rfl rfl ?_
  refine f_iloadN A122 d12_30 (pc' := 31) rfl rfl ?_
  refine f_iloadN A122 d12_31 (pc' := 32) rfl rfl ?_
  refine f_iloadN A122 d12_32 (pc' := 33) rfl rfl ?_
  refine f_callS A122 d12_33 (pc' := 36) rfl (wd hw 83 rfl) (wd hw 84 rfl) (wd hw 61 rfl) (wd hw 85 rfl) (by decide) pd5 [(.ref t), (.int (32 : Int32)), (.int (0 : Int32)), (.int (4 : Int32))] [] rfl rfl rfl 0 (Nat.le_of_eq rfl) (CN.pay (W := 0) A122 (m_ioc4 l Z a0 hw t kb c0 c1 c2 c3 h0 n0 A122.old V r0 r1 r2 r3) (wd hw 85 rfl) (wd hw 61 rfl) (by decide) (by decide)) (kc := 0) (ks := 0) (by decide) (by decide) all0 (fun q => nomatch q) fun v123 T123 h123 L123 A123 K123 q123 => ?_
  obtain ⟨rfl, hh123⟩ := q123
  obtain rfl := hh123.symm
  show Wp pG e below _ T123 (mkF m 36 _ [(.int (idxL [c0, c1, c2, c3] 0))])
  exact f_retIN A123 hlk hret d12_36 (by decide) (by decide) K0 ⟨rfl, rfl⟩
set_option maxRecDepth 65536 in
set_option maxHeartbeats 40000000 in
theorem m_ii4 (l : Launch) (Z : State) (a0 : Array Value) (hw : ∀ d ∈ tables_1, d.before a0 Z = true) (x t : Addr) (c0 c1 c2 c3 : Int32) (zc : Int32) (O2 : Sta Z Z.heap "java/lang/String" "COMPACT_STRINGS" "Z" (.int zc)) (P5 : ¬ zc = 0) (h0 : Heap) (n0 : Nat) (ho : Old Z n0 h0) (F : Str Z h0 x t [c0, c1, c2, c3]) (r0 : ¬ c0 < 0 ∧ ¬ (255 : Int32) < c0) (r1 : ¬ c1 < 0 ∧ ¬ (255 : Int32) < c1) (r2 : ¬ c2 < 0 ∧ ¬ (255 : Int32) < c2) (r3 : ¬ c3 < 0 ∧ ¬ (255 : Int32) < c3) :
    CN l (⟨"java/lang/String", "indexOf", "(II)I"⟩ : MethodName) jdk_42_method_80_code 3 (some .int) [] ({ frames := 2, cells := 0, slots := 0, locals := 60 } : Room) Z n0 h0 #[(.ref x), (.int (32 : Int32)), (.int (0 : Int32))] [] (fun v h => v = some (.int (idxL [c0, c1, c2, c3] 0)) ∧ h = h0) := by
  refine CN.walk (plainFor_of_name pn0) ho (L0 := #[.val (.ref x), .val (.int (32 : Int32)), .val (.int (0 : Int32))]) (fun m => rfl) ?_
  intro pG e s m below meth cO T hlk hret hnm A0
  have K0 : Keep h0 h0 [] := Keep.refl _ _
  obtain ⟨kb124, fv124, fc124, av124⟩ := F.open (lc r0.2 (lc r1.2 (lc r2.2 (lc r3.2 ln))))
  have av124 : Arv Z h0 t kb124 .byte (4 : Int32) [(.int (StrChars.lo8 c0)), (.int (StrChars.lo8 c1)), (.int (StrChars.lo8 c2)), (.int (StrChars.lo8 c3))] (.int 0) := av124
  refine f_aloadN A0 d8_0 (pc' := 1) rfl rfl rfl ?_
  refine f_callV A0 (a := x) d8_1 (pc' := 4) rfl (wd hw 43 rfl) (wd hw 44 rfl) (nfS A0 (wd hw 46 rfl)) (wd hw 46 rfl) (wd hw 45 rfl) (by decide) F.exa pd3 [] [] rfl rfl rfl 0 (Nat.le_of_eq rfl) (CN.pay (W := 0) A0 (m_isLat l Z a0 hw x zc O2 P5 h0 n0 A0.old fc124) (wd hw 47 rfl) (wd hw 9 rfl) (by decide) (by decide)) (kc := 0) (ks := 0) (by decide) (by decide) all0 (fun q => nomatch q) fun v125 T125 h125 L125 A125 K125 q125 => ?_
  obtain ⟨rfl, hh125⟩ := q125
  obtain rfl := hh125.symm
  show Wp pG e below _ T125 (mkF m 4 _ [(.int (1 : Int32))])
  refine f_ifN A125 d8_4 ((if0 _ _).trans (feq (by decide : ¬ (1 : Int32) = (0 : Int32))).1) (pc' := 7) rfl ?_
  refine f_aloadN A125 d8_7 (pc' := 8) rfl rfl rfl ?_
  refine f_getF A125 d8_8 (pc' := 11) rfl (host := "") (Or.inl (wd hw 27 rfl)) Via.refl fv124 fun T126 A126 => ?_
  refine f_iloadN A126 d8_11 (pc' := 12) rfl rfl ?_
  refine f_iloadN A126 d8_12 (pc' := 13) rfl rfl ?_
  refine f_aloadN A126 d8_13 (pc' := 14) rfl rfl rfl ?_
  refine f_callV A126 (a := x) d8_14 (pc' := 17) rfl (wd hw 49 rfl) (wd hw 50 rfl) (nfS A126 (wd hw 52 rfl)) (wd hw 52 rfl) (wd hw 51 rfl) (by decide) F.exa pd4 [] [(.int (0 : Int32)), (.int (32 : Int32)), (.ref t)] rfl rfl rfl 3 (Nat.le_of_eq rfl) (payLen (W := 3) A126 hw (wd hw 8 rfl) F O2 P5 (by decide) (by decide)) (kc := 0) (ks := 0) (by decide) (by decide) all0 (fun q => nomatch q) fun v127 T127 h127 L127 A127 K127 q127 => ?_
  obtain ⟨rfl, hh127⟩ := q127
  obtain rfl := hh127.symm
  show Wp pG e below _ T127 (mkF m 17 _ [(.int (4 : Int32)), (.int (0 : Int32)), (.int (32 : Int32)), (.ref t)])
  refine f_callS A127 d8_17 (pc' := 20) rfl (wd hw 59 rfl) (wd hw 60 rfl) (wd hw 61 rfl) (wd hw 62 rfl) (by decide) pd5 [(.ref t), (.int (32 : Int32)), (.int (0 : Int32)), (.int (4 : Int32))] [] rfl rfl rfl 0 (Nat.le_of_eq rfl) (CN.pay (W := 0) A127 (m_lio4 l Z a0 hw t kb124 c0 c1 c2 c3 h0 n0 A127.old av124 r0 r1 r2 r3) (wd hw 62 rfl) (wd hw 61 rfl) (by decide) (by decide)) (kc := 0) (ks := 0) (by decide) (by decide) all0 (fun q => nomatch q) fun v128 T128 h128 L128 A128 K128 q128 => ?_
  obtain ⟨rfl, hh128⟩ := q128
  obtain rfl := hh128.symm
  show Wp pG e below _ T128 (mkF m 20 _ [(.int (idxL [c0, c1, c2, c3] 0))])
  refine f_goto A128 d8_20 (pc' := 36) (by decide) (by decide) ?_
  exact f_retIN A128 hlk hret d8_36 (by decide) (by decide) K0 ⟨rfl, rfl⟩
set_option maxRecDepth 65536 in
set_option maxHeartbeats 40000000 in
theorem m_i4 (l : Launch) (Z : State) (a0 : Array Value) (hw : ∀ d ∈ tables_1, d.before a0 Z = true) (x t : Addr) (c0 c1 c2 c3 : Int32) (zc : Int32) (O2 : Sta Z Z.heap "java/lang/String" "COMPACT_STRINGS" "Z" (.int zc)) (P5 : ¬ zc = 0) (h0 : Heap) (n0 : Nat) (ho : Old Z n0 h0) (F : Str Z h0 x t [c0, c1, c2, c3]) (r0 : ¬ c0 < 0 ∧ ¬ (255 : Int32) < c0) (r1 : ¬ c1 < 0 ∧ ¬ (255 : Int32) < c1) (r2 : ¬ c2 < 0 ∧ ¬ (255 : Int32) < c2) (r3 : ¬ c3 < 0 ∧ ¬ (255 : Int32) < c3) :
    CN l (⟨"java/lang/String", "indexOf", "(I)I"⟩ : MethodName) jdk_42_method_79_code 2 (some .int) [] ({ frames := 3, cells := 0, slots := 0, locals := 80 } : Room) Z n0 h0 #[(.ref x), (.int (32 : Int32))] [] (fun v h => v = some (.int (idxL [c0, c1, c2, c3] 0)) ∧ h = h0) := by
  refine CN.walk (plainFor_of_name pn0) ho (L0 := #[.val (.ref x), .val (.int (32 : Int32))]) (fun m => rfl) ?_
  intro pG e s m below meth cO T hlk hret hnm A0
  have K0 : Keep h0 h0 [] := Keep.refl _ _
  refine f_aloadN A0 d7_0 (pc' := 1) rfl rfl rfl ?_
  refine f_iloadN A0 d7_1 (pc' := 2) rfl rfl ?_
  refine f_iconst A0 d7_2 (pc' := 3) rfl 0 rfl ?_
  refine f_callV A0 (a := x) d7_3 (pc' := 6) rfl (wd hw 38 rfl) (wd hw 39 rfl) (nfS A0 (wd hw 41 rfl)) (wd hw 41 rfl) (wd hw 40 rfl) (by decide) F.exa pd2 [(.int (32 : Int32)), (.int (0 : Int32))] [] rfl rfl rfl 0 (Nat.le_of_eq rfl) (CN.pay (W := 0) A0 (m_ii4 l Z a0 hw x t c0 c1 c2 c3 zc O2 P5 h0 n0 A0.old F r0 r1 r2 r3) (wd hw 42 rfl) (wd hw 9 rfl) (by decide) (by decide)) (kc := 0) (ks := 0) (by decide) (by decide) all0 (fun q => nomatch q) fun v129 T129 h129 L129 A129 K129 q129 => ?_
  obtain ⟨rfl, hh129⟩ := q129
  obtain rfl := hh129.symm
  show Wp pG e below _ T129 (mkF m 6 _ [(.int (idxL [c0, c1, c2, c3] 0))])
  exact f_retIN A129 hlk hret d7_6 (by decide) (by decide) K0 ⟨rfl, rfl⟩
set_option maxRecDepth 65536 in
set_option maxHeartbeats 40000000 in
theorem m_fam4 (l : Launch) (Z : State) (a0 : Array Value) (hw : ∀ d ∈ tables_1, d.before a0 Z = true) (x t : Addr) (c0 c1 c2 c3 : Int32) (zc : Int32) (O2 : Sta Z Z.heap "java/lang/String" "COMPACT_STRINGS" "Z" (.int zc)) (P5 : ¬ zc = 0) (r : Int32) (h0 : Heap) (n0 : Nat) (ho : Old Z n0 h0) (F : Str Z h0 x t [c0, c1, c2, c3]) (r0 : ¬ c0 < 0 ∧ ¬ (255 : Int32) < c0) (r1 : ¬ c1 < 0 ∧ ¬ (255 : Int32) < c1) (r2 : ¬ c2 < 0 ∧ ¬ (255 : Int32) < c2) (r3 : ¬ c3 < 0 ∧ ¬ (255 : Int32) < c3) (hr : (if 0 < idxL [c0, c1, c2, c3] 0 then 1 else 0) = r) :
    CN l (⟨"com/example/confinement/confinement/monitor/Sites", "isFamily", "(Ljava/lang/String;)Z"⟩ : MethodName) prog_13_method_2_code 1 (some .boolean) [] ({ frames := 4, cells := 0, slots := 0, locals := 100 } : Room) Z n0 h0 #[(.ref x)] [] (fun v h => v = some (.int r) ∧ h = h0) := by
  refine CN.walk (plainFor_of_name pn2) ho (L0 := #[.val (.ref x)]) (fun m => rfl) ?_
  intro pG e s m below meth cO T hlk hret hnm A0
  have K0 : Keep h0 h0 [] := Keep.refl _ _
  refine f_aloadN A0 d6_0 (pc' := 1) rfl rfl rfl ?_
  refine f_bipush A0 d6_1 (pc' := 3) rfl 32 rfl ?_
  refine f_callV A0 (a := x) d6_3 (pc' := 6) rfl (wd hw 33 rfl) (wd hw 34 rfl) (nfS A0 (wd hw 36 rfl)) (wd hw 36 rfl) (wd hw 35 rfl) (by decide) F.exa pd6 [(.int (32 : Int32))] [] rfl rfl rfl 0 (Nat.le_of_eq rfl) (CN.pay (W := 0) A0 (m_i4 l Z a0 hw x t c0 c1 c2 c3 zc O2 P5 h0 n0 A0.old F r0 r1 r2 r3) (wd hw 37 rfl) (wd hw 9 rfl) (by decide) (by decide)) (kc := 0) (ks := 0) (by decide) (by decide) all0 (fun q => nomatch q) fun v130 T130 h130 L130 A130 K130 q130 => ?_
  obtain ⟨rfl, hh130⟩ := q130
  obtain rfl := hh130.symm
  show Wp pG e below _ T130 (mkF m 6 _ [(.int (idxL [c0, c1, c2, c3] 0))])
  by_cases q : (0 : Int32) < (idxL [c0, c1, c2, c3] 0)
  · refine f_ifN A130 d6_6 ((if0 _ _).trans (tlt q).2.2.2) (pc' := 9) rfl ?_
    refine f_iconst A130 d6_9 (pc' := 10) rfl 1 rfl ?_
    refine f_goto A130 d6_10 (pc' := 14) (by decide) (by decide) ?_
    exact f_retBN A130 hlk hret d6_14 (by decide) (1 : Int32) (by decide) (by decide) (by decide) K0 ⟨by rw [← hr, if_pos q], rfl⟩
  · refine f_ifY A130 d6_6 ((if0 _ _).trans (flt q).2.2.2) (pc' := 13) (by decide) (by decide) ?_
    refine f_iconst A130 d6_13 (pc' := 14) rfl 0 rfl ?_
    exact f_retBN A130 hlk hret d6_14 (by decide) (0 : Int32) (by decide) (by decide) (by decide) K0 ⟨by rw [← hr, if_neg q], rfl⟩
theorem d2_87 : decode method_3_code 87 = .ok (.iload_n 0, 1) := by decide +kernel
theorem d2_88 : decode method_3_code 88 = .ok (.iconst 4, 1) := by decide +kernel
theorem d2_89 : decode method_3_code 89 = .ok (.if_icmp .ne 31, 3) := by decide +kernel
theorem d2_92 : decode method_3_code 92 = .ok (.new 7, 3) := by decide +kernel
theorem d2_95 : decode method_3_code 95 = .ok (.dup, 1) := by decide +kernel
theorem d2_96 : decode method_3_code 96 = .ok (.iconst 4, 1) := by decide +kernel
theorem d2_97 : decode method_3_code 97 = .ok (.newarray .char, 2) := by decide +kernel
theorem d2_99 : decode method_3_code 99 = .ok (.dup, 1) := by decide +kernel
theorem d2_100 : decode method_3_code 100 = .ok (.iconst 0, 1) := by decide +kernel
theorem d2_101 : decode method_3_code 101 = .ok (.iload_n 1, 1) := by decide +kernel
theorem d2_102 : decode method_3_code 102 = .ok (.castore, 1) := by decide +kernel
theorem d2_103 : decode method_3_code 103 = .ok (.dup, 1) := by decide +kernel
theorem d2_104 : decode method_3_code 104 = .ok (.iconst 1, 1) := by decide +kernel
theorem d2_105 : decode method_3_code 105 = .ok (.iload_n 2, 1) := by decide +kernel
theorem d2_106 : decode method_3_code 106 = .ok (.castore, 1) := by decide +kernel
theorem d2_107 : decode method_3_code 107 = .ok (.dup, 1) := by decide +kernel
theorem d2_108 : decode method_3_code 108 = .ok (.iconst 2, 1) := by decide +kernel
theorem d2_109 : decode method_3_code 109 = .ok (.iload_n 3, 1) := by decide +kernel
theorem d2_110 : decode method_3_code 110 = .ok (.castore, 1) := by decide +kernel
theorem d2_111 : decode method_3_code 111 = .ok (.dup, 1) := by decide +kernel
theorem d2_112 : decode method_3_code 112 = .ok (.iconst 3, 1) := by decide +kernel
theorem d2_113 : decode method_3_code 113 = .ok (.iload 4, 2) := by decide +kernel
theorem d2_115 : decode method_3_code 115 = .ok (.castore, 1) := by decide +kernel
theorem d2_116 : decode method_3_code 116 = .ok (.invokespecial 9, 3) := by decide +kernel
theorem d2_119 : decode method_3_code 119 = .ok (.areturn, 1) := by decide +kernel
set_option maxRecDepth 65536 in
set_option maxHeartbeats 40000000 in
theorem m_make4 (l : Launch) (Z : State) (a0 : Array Value) (hw : ∀ d ∈ tables_1, d.before a0 Z = true) (c0 c1 c2 c3 c4 : Int32) (zc : Int32) (O2 : Sta Z Z.heap "java/lang/String" "COMPACT_STRINGS" "Z" (.int zc)) (P5 : ¬ zc = 0) (h0 : Heap) (n0 : Nat) (ho : Old Z n0 h0) (hEL : EW Z a0 ELs) (r0 : ¬ c0 < 0 ∧ ¬ (255 : Int32) < c0) (r1 : ¬ c1 < 0 ∧ ¬ (255 : Int32) < c1) (r2 : ¬ c2 < 0 ∧ ¬ (255 : Int32) < c2) (r3 : ¬ c3 < 0 ∧ ¬ (255 : Int32) < c3) (r4 : ¬ c4 < 0 ∧ ¬ (255 : Int32) < c4) :
    CW l (⟨"com/example/confinement/confinement/monitor/SitesIsFamilyPinLaw", "make", "(ICCCCC)Ljava/lang/String;"⟩ : MethodName) method_3_code 6 (some (.object "java/lang/String")) [] ({ frames := 5, cells := 5, slots := 20, locals := 90 } : Room) Z ELs [] n0 h0 #[(.int (4 : Int32)), (.int c0), (.int c1), (.int c2), (.int c3), (.int c4)] [] (fun v h => ∃ (x t : Addr), v = some (.ref x) ∧ h0.size ≤ x ∧ Str Z h x t [c0, c1, c2, c3]) := by
  refine CW.walk (plainFor_of_name pn3) ho (L0 := #[.val (.int (4 : Int32)), .val (.int c0), .val (.int c1), .val (.int c2), .val (.int c3), .val (.int c4)]) (fun m => rfl) ?_
  intro pG e s m below meth cO T hlk hret hnm hSL A0
  have K0 : Keep h0 h0 [] := Keep.refl _ _
  refine f_iloadN A0 d2_0 (pc' := 1) rfl rfl ?_
  refine f_ifY A0 d2_1 ((if0 _ _).trans (feq (by decide : ¬ (4 : Int32) = (0 : Int32))).2) (pc' := 15) (by decide) (by decide) ?_
  refine f_iloadN A0 d2_15 (pc' := 16) rfl rfl ?_
  refine f_iconst A0 d2_16 (pc' := 17) rfl 1 rfl ?_
  refine f_icY A0 d2_17 (feq (by decide : ¬ (4 : Int32) = (1 : Int32))).2 (pc' := 35) (by decide) (by decide) ?_
  refine f_iloadN A0 d2_35 (pc' := 36) rfl rfl ?_
  refine f_iconst A0 d2_36 (pc' := 37) rfl 2 rfl ?_
  refine f_icY A0 d2_37 (feq (by decide : ¬ (4 : Int32) = (2 : Int32))).2 (pc' := 59) (by decide) (by decide) ?_
  refine f_iloadN A0 d2_59 (pc' := 60) rfl rfl ?_
  refine f_iconst A0 d2_60 (pc' := 61) rfl 3 rfl ?_
  refine f_icY A0 d2_61 (feq (by decide : ¬ (4 : Int32) = (3 : Int32))).2 (pc' := 87) (by decide) (by decide) ?_
  refine f_iloadN A0 d2_87 (pc' := 88) rfl rfl ?_
  refine f_iconst A0 d2_88 (pc' := 89) rfl 4 rfl ?_
  refine f_icN A0 d2_89 (teq (by decide : (4 : Int32) = (4 : Int32))).2 (pc' := 92) rfl ?_
  refine f_new A0 d2_92 (pc' := 95) rfl (wd hw 7 rfl) (wd hw 8 rfl) (wd hw 9 rfl) (by decide) (by decide) fun a131 T131 h131 g131 A131 E131 X131 D131 => ?_
  have z131 : n0 ≤ a131 := Nat.le_trans A0.sz (Nat.le_of_eq g131.symm)
  have y131 : h0.size ≤ a131 := Nat.le_trans K0.1 (Nat.le_of_eq g131.symm)
  have Q132 : Keep h0 h131 [] := K0.ext E131
  have s131 := Safe.ext E131 (A0.ch rfl).1 (Safe.new (Nat.le_of_eq g131.symm))
  refine f_dup A131 d2_95 (pc' := 96) rfl rfl ?_
  refine f_iconst A131 d2_96 (pc' := 97) rfl 4 rfl ?_
  refine f_newP A131 4 d2_97 (pc' := 99) rfl (wd hw 10 rfl) (by decide) (by decide) (by decide) (by decide) (by decide) (ad := "[C") (by decide) fun a133 T133 h133 k133 g133 A133 E133 F133 X133 => ?_
  have z133 : n0 ≤ a133 := Nat.le_trans A131.sz (Nat.le_of_eq g133.symm)
  have y133 : h0.size ≤ a133 := Nat.le_trans Q132.1 (Nat.le_of_eq g133.symm)
  have Q134 : Keep h0 h133 [] := Q132.ext E133
  have V133 : Arv Z h133 a133 k133 .char (4 : Int32) [(.int (0 : Int32)), (.int (0 : Int32)), (.int (0 : Int32)), (.int (0 : Int32))] (.int (0 : Int32)) := F133.pad (pad_rep [] (.int (0 : Int32)) 4)
  refine f_dup A133 d2_99 (pc' := 100) rfl rfl ?_
  refine f_iconst A133 d2_100 (pc' := 101) rfl 0 rfl ?_
  refine f_iloadN A133 d2_101 (pc' := 102) rfl rfl ?_
  refine f_castore A133 d2_102 (pc' := 103) rfl V133 ⟨by decide, by decide⟩ 0 (by decide) (Nat.le_of_ble_eq_true rfl) c0 (nar_id (by have := of_lat r0; omega)) (vs' := [(.int c0), (.int (0 : Int32)), (.int (0 : Int32)), (.int (0 : Int32))]) rfl z133 (fun _ => (Safe.exa A133.hZ.alike X133 (by decide) (by decide))) fun T135 h135 A135 K135 V135 => ?_
  have Q136 : Keep h0 h135 [] := Q134.trans K135 (allS (Or.inr y133) all0)
  refine f_dup A135 d2_103 (pc' := 104) rfl rfl ?_
  refine f_iconst A135 d2_104 (pc' := 105) rfl 1 rfl ?_
  refine f_iloadN A135 d2_105 (pc' := 106) rfl rfl ?_
  have c138 := (X133.keep K135)
  refine f_castore A135 d2_106 (pc' := 107) rfl V135 ⟨by decide, by decide⟩ 1 (by decide) (Nat.le_of_ble_eq_true rfl) c1 (nar_id (by have := of_lat r1; omega)) (vs' := [(.int c0), (.int c1), (.int (0 : Int32)), (.int (0 : Int32))]) rfl z133 (fun _ => (Safe.exa A135.hZ.alike c138 (by decide) (by decide))) fun T137 h137 A137 K137 V137 => ?_
  have Q139 : Keep h0 h137 [] := Q136.trans K137 (allS (Or.inr y133) all0)
  refine f_dup A137 d2_107 (pc' := 108) rfl rfl ?_
  refine f_iconst A137 d2_108 (pc' := 109) rfl 2 rfl ?_
  refine f_iloadN A137 d2_109 (pc' := 110) rfl rfl ?_
  have c141 := (c138.keep K137)
  refine f_castore A137 d2_110 (pc' := 111) rfl V137 ⟨by decide, by decide⟩ 2 (by decide) (Nat.le_of_ble_eq_true rfl) c2 (nar_id (by have := of_lat r2; omega)) (vs' := [(.int c0), (.int c1), (.int c2), (.int (0 : Int32))]) rfl z133 (fun _ => (Safe.exa A137.hZ.alike c141 (by decide) (by decide))) fun T140 h140 A140 K140 V140 => ?_
  have Q142 : Keep h0 h140 [] := Q139.trans K140 (allS (Or.inr y133) all0)
  refine f_dup A140 d2_111 (pc' := 112) rfl rfl ?_
  refine f_iconst A140 d2_112 (pc' := 113) rfl 3 rfl ?_
  refine f_iload A140 d2_113 (pc' := 115) rfl rfl ?_
  have c144 := (c141.keep K140)
  refine f_castore A140 d2_115 (pc' := 116) rfl V140 ⟨by decide, by decide⟩ 3 (by decide) (Nat.le_of_ble_eq_true rfl) c3 (nar_id (by have := of_lat r3; omega)) (vs' := [(.int c0), (.int c1), (.int c2), (.int c3)]) rfl z133 (fun _ => (Safe.exa A140.hZ.alike c144 (by decide) (by decide))) fun T143 h143 A143 K143 V143 => ?_
  have Q145 : Keep h0 h143 [] := Q142.trans K143 (allS (Or.inr y133) all0)
  have c146 := (((((X131.ext E133).keep K135).keep K137).keep K140).keep K143)
  have c147 := ((((((show Fld Z h131 a131 "java/lang/String" "value" "[B" .null from D131 (Or.inr (wd hw 23 rfl)) (ty := (.array .byte)) (by decide)).ext E133).keep K135 (ninS (Nat.ne_of_lt (Nat.lt_of_lt_of_le X131.lt (Nat.le_of_eq g133.symm))) nin0)).keep K137 (ninS (Nat.ne_of_lt (Nat.lt_of_lt_of_le X131.lt (Nat.le_of_eq g133.symm))) nin0)).keep K140 (ninS (Nat.ne_of_lt (Nat.lt_of_lt_of_le X131.lt (Nat.le_of_eq g133.symm))) nin0)).keep K143 (ninS (Nat.ne_of_lt (Nat.lt_of_lt_of_le X131.lt (Nat.le_of_eq g133.symm))) nin0))
  have c148 := ((((((show Fld Z h131 a131 "java/lang/String" "coder" "B" (.int (0 : Int32)) from D131 (Or.inr (wd hw 24 rfl)) (ty := .byte) (by decide)).ext E133).keep K135 (ninS (Nat.ne_of_lt (Nat.lt_of_lt_of_le X131.lt (Nat.le_of_eq g133.symm))) nin0)).keep K137 (ninS (Nat.ne_of_lt (Nat.lt_of_lt_of_le X131.lt (Nat.le_of_eq g133.symm))) nin0)).keep K140 (ninS (Nat.ne_of_lt (Nat.lt_of_lt_of_le X131.lt (Nat.le_of_eq g133.symm))) nin0)).keep K143 (ninS (Nat.ne_of_lt (Nat.lt_of_lt_of_le X131.lt (Nat.le_of_eq g133.symm))) nin0))
  have c150 := (Safe.keep K143 (sfS (Safe.exa A140.hZ.alike c144 (by decide) (by decide)) sf0) (A140.ch rfl).1 (Safe.keep K140 (sfS (Safe.exa A137.hZ.alike c141 (by decide) (by decide)) sf0) (A137.ch rfl).1 (Safe.keep K137 (sfS (Safe.exa A135.hZ.alike c138 (by decide) (by decide)) sf0) (A135.ch rfl).1 (Safe.keep K135 (sfS (Safe.exa A133.hZ.alike X133 (by decide) (by decide)) sf0) (A133.ch rfl).1 (Safe.ext E133 (A131.ch rfl).1 s131)))))
  refine f_callI A143 (a := a131) d2_116 (pc' := 119) rfl rfl (wd hw 11 rfl) (wd hw 12 rfl) (wd hw 13 rfl) (by decide) pd7 [(.ref a133)] [(.ref a131)] rfl rfl rfl 1 (Nat.le_of_eq rfl) (payNew (W := 1) A143 hw (wd hw 8 rfl) (cs := [c0, c1, c2, c3]) 4 z131 c146 c147 c148 V143 O2 P5 rfl rfl (by decide) (by decide) (lc r0 (lc r1 (lc r2 (lc r3 ln)))) (by decide) (by decide)) (kc := 1) (ks := 4) (by decide) (by decide) (allS z131 all0) (fun _ => (sfS c150 sf0)) fun v149 T149 h149 L149 A149 K149 q149 => ?_
  have Q151 : Keep h0 h149 [] := Q145.trans K149 (allS (Or.inr y131) all0)
  obtain ⟨rfl, t149, tz149, tg149, tn149, G149⟩ := q149
  show Wp pG e below _ T149 (mkF m 119 _ [(.ref a131)])
  exact f_retRW A149 hEL hlk hret d2_119 rfl rfl (by decide) (by decide) Q151 ⟨a131, t149, rfl, y131, G149⟩
set_option maxRecDepth 65536 in
set_option maxHeartbeats 40000000 in
theorem m_ioc5 (l : Launch) (Z : State) (a0 : Array Value) (hw : ∀ d ∈ tables_1, d.before a0 Z = true) (t : Addr) (kb : ClassId) (c0 c1 c2 c3 c4 : Int32) (h0 : Heap) (n0 : Nat) (ho : Old Z n0 h0) (V : Arv Z h0 t kb .byte 5 [(.int (StrChars.lo8 c0)), (.int (StrChars.lo8 c1)), (.int (StrChars.lo8 c2)), (.int (StrChars.lo8 c3)), (.int (StrChars.lo8 c4))] (.int 0)) (r0 : ¬ c0 < 0 ∧ ¬ (255 : Int32) < c0) (r1 : ¬ c1 < 0 ∧ ¬ (255 : Int32) < c1) (r2 : ¬ c2 < 0 ∧ ¬ (255 : Int32) < c2) (r3 : ¬ c3 < 0 ∧ ¬ (255 : Int32) < c3) (r4 : ¬ c4 < 0 ∧ ¬ (255 : Int32) < c4) :
    CN l (⟨"java/lang/StringLatin1", "indexOfChar", "([BIII)I"⟩ : MethodName) jdk_43_method_23_code 6 (some .int) [] ({ frames := 0, cells := 0, slots := 0, locals := 0 } : Room) Z n0 h0 #[(.ref t), (.int (32 : Int32)), (.int (0 : Int32)), (.int (5 : Int32))] [] (fun v h => v = some (.int (idxL [c0, c1, c2, c3, c4] 0)) ∧ h = h0) := by
  refine CN.walk (plainFor_of_name pn1) ho (L0 := #[.val (.ref t), .val (.int (32 : Int32)), .val (.int (0 : Int32)), .val (.int (5 : Int32)), .unset, .unset]) (fun m => rfl) ?_
  intro pG e s m below meth cO T hlk hret hnm A0
  have K0 : Keep h0 h0 [] := Keep.refl _ _
  refine f_iloadN A0 d19_0 (pc' := 1) rfl rfl ?_
  refine f_i2b A0 d19_1 (pc' := 2) rfl (32 : Int32) (by decide) ?_
  refine f_istore A0 d19_2 (pc' := 4) rfl (L' := #[.val (.ref t), .val (.int (32 : Int32)), .val (.int (0 : Int32)), .val (.int (5 : Int32)), .val (.int (32 : Int32)), .unset]) rfl ?_
  refine f_iloadN A0 d19_4 (pc' := 5) rfl rfl ?_
  refine f_istore A0 d19_5 (pc' := 7) rfl (L' := #[.val (.ref t), .val (.int (32 : Int32)), .val (.int (0 : Int32)), .val (.int (5 : Int32)), .val (.int (32 : Int32)), .val (.int (0 : Int32))]) rfl ?_
  refine f_iload A0 d19_7 (pc' := 9) rfl rfl ?_
  refine f_iloadN A0 d19_9 (pc' := 10) rfl rfl ?_
  refine f_icN A0 d19_10 (tlt (by decide : (0 : Int32) < (5 : Int32))).2.1 (pc' := 13) rfl ?_
  refine f_aloadN A0 d19_13 (pc' := 14) rfl rfl rfl ?_
  refine f_iload A0 d19_14 (pc' := 16) rfl rfl ?_
  refine f_baload A0 d19_16 (pc' := 17) rfl V ⟨by decide, by decide⟩ rfl ?_
  refine f_iload A0 d19_17 (pc' := 19) rfl rfl ?_
  by_cases q0 : c0 = 32
  · refine f_icN A0 d19_19 (teq ((lo32 r0).mpr q0)).2 (pc' := 22) rfl ?_
    refine f_iload A0 d19_22 (pc' := 24) rfl rfl ?_
    exact f_retIN A0 hlk hret d19_24 (by decide) (by decide) K0 ⟨by simp [idxL, q0], rfl⟩
  · refine f_icY A0 d19_19 (feq (fun q => q0 ((lo32 r0).mp q))).2 (pc' := 25) (by decide) (by decide) ?_
    refine f_iinc A0 d19_25 (pc' := 28) rfl rfl (1 : Int32) (by decide) (L' := #[.val (.ref t), .val (.int (32 : Int32)), .val (.int (0 : Int32)), .val (.int (5 : Int32)), .val (.int (32 : Int32)), .val (.int (1 : Int32))]) rfl ?_
    refine f_goto A0 d19_28 (pc' := 7) (by decide) (by decide) ?_
    refine f_iload A0 d19_7 (pc' := 9) rfl rfl ?_
    refine f_iloadN A0 d19_9 (pc' := 10) rfl rfl ?_
    refine f_icN A0 d19_10 (tlt (by decide : (1 : Int32) < (5 : Int32))).2.1 (pc' := 13) rfl ?_
    refine f_aloadN A0 d19_13 (pc' := 14) rfl rfl rfl ?_
    refine f_iload A0 d19_14 (pc' := 16) rfl rfl ?_
    refine f_baload A0 d19_16 (pc' := 17) rfl V ⟨by decide, by decide⟩ rfl ?_
    refine f_iload A0 d19_17 (pc' := 19) rfl rfl ?_
    by_cases q1 : c1 = 32
    · refine f_icN A0 d19_19 (teq ((lo32 r1).mpr q1)).2 (pc' := 22) rfl ?_
      refine f_iload A0 d19_22 (pc' := 24) rfl rfl ?_
      exact f_retIN A0 hlk hret d19_24 (by decide) (by decide) K0 ⟨by simp [idxL, q0, q1], rfl⟩
    · refine f_icY A0 d19_19 (feq (fun q => q1 ((lo32 r1).mp q))).2 (pc' := 25) (by decide) (by decide) ?_
      refine f_iinc A0 d19_25 (pc' := 28) rfl rfl (2 : Int32) (by decide) (L' := #[.val (.ref t), .val (.int (32 : Int32)), .val (.int (0 : Int32)), .val (.int (5 : Int32)), .val (.int (32 : Int32)), .val (.int (2 : Int32))]) rfl ?_
      refine f_goto A0 d19_28 (pc' := 7) (by decide) (by decide) ?_
      refine f_iload A0 d19_7 (pc' := 9) rfl rfl ?_
      refine f_iloadN A0 d19_9 (pc' := 10) rfl rfl ?_
      refine f_icN A0 d19_10 (tlt (by decide : (2 : Int32) < (5 : Int32))).2.1 (pc' := 13) rfl ?_
      refine f_aloadN A0 d19_13 (pc' := 14) rfl rfl rfl ?_
      refine f_iload A0 d19_14 (pc' := 16) rfl rfl ?_
      refine f_baload A0 d19_16 (pc' := 17) rfl V ⟨by decide, by decide⟩ rfl ?_
      refine f_iload A0 d19_17 (pc' := 19) rfl rfl ?_
      by_cases q2 : c2 = 32
      · refine f_icN A0 d19_19 (teq ((lo32 r2).mpr q2)).2 (pc' := 22) rfl ?_
        refine f_iload A0 d19_22 (pc' := 24) rfl rfl ?_
        exact f_retIN A0 hlk hret d19_24 (by decide) (by decide) K0 ⟨by simp [idxL, q0, q1, q2], rfl⟩
      · refine f_icY A0 d19_19 (feq (fun q => q2 ((lo32 r2).mp q))).2 (pc' := 25) (by decide) (by decide) ?_
        refine f_iinc A0 d19_25 (pc' := 28) rfl rfl (3 : Int32) (by decide) (L' := #[.val (.ref t), .val (.int (32 : Int32)), .val (.int (0 : Int32)), .val (.int (5 : Int32)), .val (.int (32 : Int32)), .val (.int (3 : Int32))]) rfl ?_
        refine f_goto A0 d19_28 (pc' := 7) (by decide) (by decide) ?_
        refine f_iload A0 d19_7 (pc' := 9) rfl rfl ?_
        refine f_iloadN A0 d19_9 (pc' := 10) rfl rfl ?_
        refine f_icN A0 d19_10 (tlt (by decide : (3 : Int32) < (5 : Int32))).2.1 (pc' := 13) rfl ?_
        refine f_aloadN A0 d19_13 (pc' := 14) rfl rfl rfl ?_
        refine f_iload A0 d19_14 (pc' := 16) rfl rfl ?_
        refine f_baload A0 d19_16 (pc' := 17) rfl V ⟨by decide, by decide⟩ rfl ?_
        refine f_iload A0 d19_17 (pc' := 19) rfl rfl ?_
        by_cases q3 : c3 = 32
        · refine f_icN A0 d19_19 (teq ((lo32 r3).mpr q3)).2 (pc' := 22) rfl ?_
          refine f_iload A0 d19_22 (pc' := 24) rfl rfl ?_
          exact f_retIN A0 hlk hret d19_24 (by decide) (by decide) K0 ⟨by simp [idxL, q0, q1, q2, q3], rfl⟩
        · refine f_icY A0 d19_19 (feq (fun q => q3 ((lo32 r3).mp q))).2 (pc' := 25) (by decide) (by decide) ?_
          refine f_iinc A0 d19_25 (pc' := 28) rfl rfl (4 : Int32) (by decide) (L' := #[.val (.ref t), .val (.int (32 : Int32)), .val (.int (0 : Int32)), .val (.int (5 : Int32)), .val (.int (32 : Int32)), .val (.int (4 : Int32))]) rfl ?_
          refine f_goto A0 d19_28 (pc' := 7) (by decide) (by decide) ?_
          refine f_iload A0 d19_7 (pc' := 9) rfl rfl ?_
          refine f_iloadN A0 d19_9 (pc' := 10) rfl rfl ?_
          refine f_icN A0 d19_10 (tlt (by decide : (4 : Int32) < (5 : Int32))).2.1 (pc' := 13) rfl ?_
          refine f_aloadN A0 d19_13 (pc' := 14) rfl rfl rfl ?_
          refine f_iload A0 d19_14 (pc' := 16) rfl rfl ?_
          refine f_baload A0 d19_16 (pc' := 17) rfl V ⟨by decide, by decide⟩ rfl ?_
          refine f_iload A0 d19_17 (pc' := 19) rfl rfl ?_
          by_cases q4 : c4 = 32
          · refine f_icN A0 d19_19 (teq ((lo32 r4).mpr q4)).2 (pc' := 22) rfl ?_
            refine f_iload A0 d19_22 (pc' := 24) rfl rfl ?_
            exact f_retIN A0 hlk hret d19_24 (by decide) (by decide) K0 ⟨by simp [idxL, q0, q1, q2, q3, q4], rfl⟩
          · refine f_icY A0 d19_19 (feq (fun q => q4 ((lo32 r4).mp q))).2 (pc' := 25) (by decide) (by decide) ?_
            refine f_iinc A0 d19_25 (pc' := 28) rfl rfl (5 : Int32) (by decide) (L' := #[.val (.ref t), .val (.int (32 : Int32)), .val (.int (0 : Int32)), .val (.int (5 : Int32)), .val (.int (32 : Int32)), .val (.int (5 : Int32))]) rfl ?_
            refine f_goto A0 d19_28 (pc' := 7) (by decide) (by decide) ?_
            refine f_iload A0 d19_7 (pc' := 9) rfl rfl ?_
            refine f_iloadN A0 d19_9 (pc' := 10) rfl rfl ?_
            refine f_icY A0 d19_10 (flt (by decide : ¬ (5 : Int32) < (5 : Int32))).2.1 (pc' := 31) (by decide) (by decide) ?_
            refine f_iconst A0 d19_31 (pc' := 32) rfl (-1) rfl ?_
            exact f_retIN A0 hlk hret d19_32 (by decide) (by decide) K0 ⟨by simp [idxL, q0, q1, q2, q3, q4], rfl⟩
set_option maxRecDepth 65536 in
set_option maxHeartbeats 40000000 in
theorem m_lio5 (l : Launch) (Z : State) (a0 : Array Value) (hw : ∀ d ∈ tables_1, d.before a0 Z = true) (t : Addr) (kb : ClassId) (c0 c1 c2 c3 c4 : Int32) (h0 : Heap) (n0 : Nat) (ho : Old Z n0 h0) (V : Arv Z h0 t kb .byte 5 [(.int (StrChars.lo8 c0)), (.int (StrChars.lo8 c1)), (.int (StrChars.lo8 c2)), (.int (StrChars.lo8 c3)), (.int (StrChars.lo8 c4))] (.int 0)) (r0 : ¬ c0 < 0 ∧ ¬ (255 : Int32) < c0) (r1 : ¬ c1 < 0 ∧ ¬ (255 : Int32) < c1) (r2 : ¬ c2 < 0 ∧ ¬ (255 : Int32) < c2) (r3 : ¬ c3 < 0 ∧ ¬ (255 : Int32) < c3) (r4 : ¬ c4 < 0 ∧ ¬ (255 : Int32) < c4) :
    CN l (⟨"java/lang/StringLatin1", "indexOf", "([BIII)I"⟩ : MethodName) jdk_43_method_22_code 4 (some .int) [] ({ frames := 1, cells := 0, slots := 0, locals := 30 } : Room) Z n0 h0 #[(.ref t), (.int (32 : Int32)), (.int (0 : Int32)), (.int (5 : Int32))] [] (fun v h => v = some (.int (idxL [c0, c1, c2, c3, c4] 0)) ∧ h = h0) := by
  refine CN.walk (plainFor_of_name pn1) ho (L0 := #[.val (.ref t), .val (.int (32 : Int32)), .val (.int (0 : Int32)), .val (.int (5 : Int32))]) (fun m => rfl) ?_
  intro pG e s m below meth cO T hlk hret hnm A0
  have K0 : Keep h0 h0 [] := Keep.refl _ _
  refine f_iloadN A0 d12_0 (pc' := 1) rfl rfl ?_
  refine f_callS A0 d12_1 (pc' := 4) rfl (wd hw 63 rfl) (wd hw 64 rfl) (wd hw 61 rfl) (wd hw 65 rfl) (by decide) pd1 [(.int (32 : Int32))] [] rfl rfl rfl 0 (Nat.le_of_eq rfl) (CN.pay (W := 0) A0 (m_can l Z a0 hw h0 n0 A0.old) (wd hw 65 rfl) (wd hw 61 rfl) (by decide) (by decide)) (kc := 0) (ks := 0) (by decide) (by decide) all0 (fun q => nomatch q) fun v152 T152 h152 L152 A152 K152 q152 => ?_
  obtain ⟨rfl, hh152⟩ := q152
  obtain rfl := hh152.symm
  show Wp pG e below _ T152 (mkF m 4 _ [(.int (1 : Int32))])
  refine f_ifY A152 d12_4 ((if0 _ _).trans (feq (by decide : ¬ (1 : Int32) = (0 : Int32))).2) (pc' := 9) (by decide) (by decide) ?_
  refine f_iloadN A152 d12_9 (pc' := 10) rfl rfl ?_
  refine f_iconst A152 d12_10 (pc' := 11) rfl 0 rfl ?_
  refine f_callS A152 d12_11 (pc' := 14) rfl (wd hw 66 rfl) (wd hw 67 rfl) (wd hw 68 rfl) (wd hw 69 rfl) (by decide) pd2 [(.int (0 : Int32)), (.int (0 : Int32))] [] rfl rfl rfl 0 (Nat.le_of_eq rfl) (CN.pay (W := 0) A152 (m_max l Z a0 hw (0 : Int32) (0 : Int32) h0 n0 A152.old) (wd hw 69 rfl) (wd hw 68 rfl) (by decide) (by decide)) (kc := 0) (ks := 0) (by decide) (by decide) all0 (fun q => nomatch q) fun v153 T153 h153 L153 A153 K153 q153 => ?_
  obtain ⟨e153, hh153⟩ := q153
  obtain rfl := hh153.symm
  rw [if_neg (by decide)] at e153
  subst e153
  show Wp pG e below _ T153 (mkF m 14 _ [(.int (0 : Int32))])
  refine f_istoreN A153 d12_14 (pc' := 15) rfl (L' := #[.val (.ref t), .val (.int (32 : Int32)), .val (.int (0 : Int32)), .val (.int (5 : Int32))]) rfl ?_
  refine f_iloadN A153 d12_15 (pc' := 16) rfl rfl ?_
  refine f_aloadN A153 d12_16 (pc' := 17) rfl rfl rfl ?_
  refine f_arraylength A153 d12_17 (pc' := 18) rfl V ?_
  refine f_callS A153 d12_18 (pc' := 21) rfl (wd hw 70 rfl) (wd hw 71 rfl) (wd hw 68 rfl) (wd hw 72 rfl) (by decide) pd2 [(.int (5 : Int32)), (.int (5 : Int32))] [] rfl rfl rfl 0 (Nat.le_of_eq rfl) (CN.pay (W := 0) A153 (m_min l Z a0 hw (5 : Int32) (5 : Int32) h0 n0 A153.old) (wd hw 72 rfl) (wd hw 68 rfl) (by decide) (by decide)) (kc := 0) (ks := 0) (by decide) (by decide) all0 (fun q => nomatch q) fun v154 T154 h154 L154 A154 K154 q154 => ?_
  obtain ⟨e154, hh154⟩ := q154
  obtain rfl := hh154.symm
  rw [if_neg (by decide)] at e154
  subst e154
  show Wp pG e below _ T154 (mkF m 21 _ [(.int (5 : Int32))])
  refine f_istoreN A154 d12_21 (pc' := 22) rfl (L' := #[.val (.ref t), .val (.int (32 : Int32)), .val (.int (0 : Int32)), .val (.int (5 : Int32))]) rfl ?_
  refine f_iloadN A154 d12_22 (pc' := 23) rfl rfl ?_
  refine f_iloadN A154 d12_23 (pc' := 24) rfl rfl ?_
  refine f_icY A154 d12_24 (tlt (by decide : (0 : Int32) < (5 : Int32))).1 (pc' := 29) (by decide) (by decide) ?_
  refine f_aloadN A154 d12_29 (pc' := 30) rfl rfl rfl ?_
  refine f_iloadN A154 d12_30 (pc' := 31) rfl rfl ?_
  refine f_iloadN A154 d12_31 (pc' := 32) rfl rfl ?_
  refine f_iloadN A154 d12_32 (pc' := 33) rfl rfl ?_
  refine f_callS A154 d12_33 (pc' := 36) rfl (wd hw 83 rfl) (wd hw 84 rfl) (wd hw 61 rfl) (wd hw 85 rfl) (by decide) pd5 [(.ref t), (.int (32 : Int32)), (.int (0 : Int32)), (.int (5 : Int32))] [] rfl rfl rfl 0 (Nat.le_of_eq rfl) (CN.pay (W := 0) A154 (m_ioc5 l Z a0 hw t kb c0 c1 c2 c3 c4 h0 n0 A154.old V r0 r1 r2 r3 r4) (wd hw 85 rfl) (wd hw 61 rfl) (by decide) (by decide)) (kc := 0) (ks := 0) (by decide) (by decide) all0 (fun q => nomatch q) fun v155 T155 h155 L155 A155 K155 q155 => ?_
  obtain ⟨rfl, hh155⟩ := q155
  obtain rfl := hh155.symm
  show Wp pG e below _ T155 (mkF m 36 _ [(.int (idxL [c0, c1, c2, c3, c4] 0))])
  exact f_retIN A155 hlk hret d12_36 (by decide) (by decide) K0 ⟨rfl, rfl⟩
set_option maxRecDepth 65536 in
set_option maxHeartbeats 40000000 in
theorem m_ii5 (l : Launch) (Z : State) (a0 : Array Value) (hw : ∀ d ∈ tables_1, d.before a0 Z = true) (x t : Addr) (c0 c1 c2 c3 c4 : Int32) (zc : Int32) (O2 : Sta Z Z.heap "java/lang/String" "COMPACT_STRINGS" "Z" (.int zc)) (P5 : ¬ zc = 0) (h0 : Heap) (n0 : Nat) (ho : Old Z n0 h0) (F : Str Z h0 x t [c0, c1, c2, c3, c4]) (r0 : ¬ c0 < 0 ∧ ¬ (255 : Int32) < c0) (r1 : ¬ c1 < 0 ∧ ¬ (255 : Int32) < c1) (r2 : ¬ c2 < 0 ∧ ¬ (255 : Int32) < c2) (r3 : ¬ c3 < 0 ∧ ¬ (255 : Int32) < c3) (r4 : ¬ c4 < 0 ∧ ¬ (255 : Int32) < c4) :
    CN l (⟨"java/lang/String", "indexOf", "(II)I"⟩ : MethodName) jdk_42_method_80_code 3 (some .int) [] ({ frames := 2, cells := 0, slots := 0, locals := 60 } : Room) Z n0 h0 #[(.ref x), (.int (32 : Int32)), (.int (0 : Int32))] [] (fun v h => v = some (.int (idxL [c0, c1, c2, c3, c4] 0)) ∧ h = h0) := by
  refine CN.walk (plainFor_of_name pn0) ho (L0 := #[.val (.ref x), .val (.int (32 : Int32)), .val (.int (0 : Int32))]) (fun m => rfl) ?_
  intro pG e s m below meth cO T hlk hret hnm A0
  have K0 : Keep h0 h0 [] := Keep.refl _ _
  obtain ⟨kb156, fv156, fc156, av156⟩ := F.open (lc r0.2 (lc r1.2 (lc r2.2 (lc r3.2 (lc r4.2 ln)))))
  have av156 : Arv Z h0 t kb156 .byte (5 : Int32) [(.int (StrChars.lo8 c0)), (.int (StrChars.lo8 c1)), (.int (StrChars.lo8 c2)), (.int (StrChars.lo8 c3)), (.int (StrChars.lo8 c4))] (.int 0) := av156
  refine f_aloadN A0 d8_0 (pc' := 1) rfl rfl rfl ?_
  refine f_callV A0 (a := x) d8_1 (pc' := 4) rfl (wd hw 43 rfl) (wd hw 44 rfl) (nfS A0 (wd hw 46 rfl)) (wd hw 46 rfl) (wd hw 45 rfl) (by decide) F.exa pd3 [] [] rfl rfl rfl 0 (Nat.le_of_eq rfl) (CN.pay (W := 0) A0 (m_isLat l Z a0 hw x zc O2 P5 h0 n0 A0.old fc156) (wd hw 47 rfl) (wd hw 9 rfl) (by decide) (by decide)) (kc := 0) (ks := 0) (by decide) (by decide) all0 (fun q => nomatch q) fun v157 T157 h157 L157 A157 K157 q157 => ?_
  obtain ⟨rfl, hh157⟩ := q157
  obtain rfl := hh157.symm
  show Wp pG e below _ T157 (mkF m 4 _ [(.int (1 : Int32))])
  refine f_ifN A157 d8_4 ((if0 _ _).trans (feq (by decide : ¬ (1 : Int32) = (0 : Int32))).1) (pc' := 7) rfl ?_
  refine f_aloadN A157 d8_7 (pc' := 8) rfl rfl rfl ?_
  refine f_getF A157 d8_8 (pc' := 11) rfl (host := "") (Or.inl (wd hw 27 rfl)) Via.refl fv156 fun T158 A158 => ?_
  refine f_iloadN A158 d8_11 (pc' := 12) rfl rfl ?_
  refine f_iloadN A158 d8_12 (pc' := 13) rfl rfl ?_
  refine f_aloadN A158 d8_13 (pc' := 14) rfl rfl rfl ?_
  refine f_callV A158 (a := x) d8_14 (pc' := 17) rfl (wd hw 49 rfl) (wd hw 50 rfl) (nfS A158 (wd hw 52 rfl)) (wd hw 52 rfl) (wd hw 51 rfl) (by decide) F.exa pd4 [] [(.int (0 : Int32)), (.int (32 : Int32)), (.ref t)] rfl rfl rfl 3 (Nat.le_of_eq rfl) (payLen (W := 3) A158 hw (wd hw 8 rfl) F O2 P5 (by decide) (by decide)) (kc := 0) (ks := 0) (by decide) (by decide) all0 (fun q => nomatch q) fun v159 T159 h159 L159 A159 K159 q159 => ?_
  obtain ⟨rfl, hh159⟩ := q159
  obtain rfl := hh159.symm
  show Wp pG e below _ T159 (mkF m 17 _ [(.int (5 : Int32)), (.int (0 : Int32)), (.int (32 : Int32)), (.ref t)])
  refine f_callS A159 d8_17 (pc' := 20) rfl (wd hw 59 rfl) (wd hw 60 rfl) (wd hw 61 rfl) (wd hw 62 rfl) (by decide) pd5 [(.ref t), (.int (32 : Int32)), (.int (0 : Int32)), (.int (5 : Int32))] [] rfl rfl rfl 0 (Nat.le_of_eq rfl) (CN.pay (W := 0) A159 (m_lio5 l Z a0 hw t kb156 c0 c1 c2 c3 c4 h0 n0 A159.old av156 r0 r1 r2 r3 r4) (wd hw 62 rfl) (wd hw 61 rfl) (by decide) (by decide)) (kc := 0) (ks := 0) (by decide) (by decide) all0 (fun q => nomatch q) fun v160 T160 h160 L160 A160 K160 q160 => ?_
  obtain ⟨rfl, hh160⟩ := q160
  obtain rfl := hh160.symm
  show Wp pG e below _ T160 (mkF m 20 _ [(.int (idxL [c0, c1, c2, c3, c4] 0))])
  refine f_goto A160 d8_20 (pc' := 36) (by decide) (by decide) ?_
  exact f_retIN A160 hlk hret d8_36 (by decide) (by decide) K0 ⟨rfl, rfl⟩
set_option maxRecDepth 65536 in
set_option maxHeartbeats 40000000 in
theorem m_i5 (l : Launch) (Z : State) (a0 : Array Value) (hw : ∀ d ∈ tables_1, d.before a0 Z = true) (x t : Addr) (c0 c1 c2 c3 c4 : Int32) (zc : Int32) (O2 : Sta Z Z.heap "java/lang/String" "COMPACT_STRINGS" "Z" (.int zc)) (P5 : ¬ zc = 0) (h0 : Heap) (n0 : Nat) (ho : Old Z n0 h0) (F : Str Z h0 x t [c0, c1, c2, c3, c4]) (r0 : ¬ c0 < 0 ∧ ¬ (255 : Int32) < c0) (r1 : ¬ c1 < 0 ∧ ¬ (255 : Int32) < c1) (r2 : ¬ c2 < 0 ∧ ¬ (255 : Int32) < c2) (r3 : ¬ c3 < 0 ∧ ¬ (255 : Int32) < c3) (r4 : ¬ c4 < 0 ∧ ¬ (255 : Int32) < c4) :
    CN l (⟨"java/lang/String", "indexOf", "(I)I"⟩ : MethodName) jdk_42_method_79_code 2 (some .int) [] ({ frames := 3, cells := 0, slots := 0, locals := 80 } : Room) Z n0 h0 #[(.ref x), (.int (32 : Int32))] [] (fun v h => v = some (.int (idxL [c0, c1, c2, c3, c4] 0)) ∧ h = h0) := by
  refine CN.walk (plainFor_of_name pn0) ho (L0 := #[.val (.ref x), .val (.int (32 : Int32))]) (fun m => rfl) ?_
  intro pG e s m below meth cO T hlk hret hnm A0
  have K0 : Keep h0 h0 [] := Keep.refl _ _
  refine f_aloadN A0 d7_0 (pc' := 1) rfl rfl rfl ?_
  refine f_iloadN A0 d7_1 (pc' := 2) rfl rfl ?_
  refine f_iconst A0 d7_2 (pc' := 3) rfl 0 rfl ?_
  refine f_callV A0 (a := x) d7_3 (pc' := 6) rfl (wd hw 38 rfl) (wd hw 39 rfl) (nfS A0 (wd hw 41 rfl)) (wd hw 41 rfl) (wd hw 40 rfl) (by decide) F.exa pd2 [(.int (32 : Int32)), (.int (0 : Int32))] [] rfl rfl rfl 0 (Nat.le_of_eq rfl) (CN.pay (W := 0) A0 (m_ii5 l Z a0 hw x t c0 c1 c2 c3 c4 zc O2 P5 h0 n0 A0.old F r0 r1 r2 r3 r4) (wd hw 42 rfl) (wd hw 9 rfl) (by decide) (by decide)) (kc := 0) (ks := 0) (by decide) (by decide) all0 (fun q => nomatch q) fun v161 T161 h161 L161 A161 K161 q161 => ?_
  obtain ⟨rfl, hh161⟩ := q161
  obtain rfl := hh161.symm
  show Wp pG e below _ T161 (mkF m 6 _ [(.int (idxL [c0, c1, c2, c3, c4] 0))])
  exact f_retIN A161 hlk hret d7_6 (by decide) (by decide) K0 ⟨rfl, rfl⟩
set_option maxRecDepth 65536 in
set_option maxHeartbeats 40000000 in
theorem m_fam5 (l : Launch) (Z : State) (a0 : Array Value) (hw : ∀ d ∈ tables_1, d.before a0 Z = true) (x t : Addr) (c0 c1 c2 c3 c4 : Int32) (zc : Int32) (O2 : Sta Z Z.heap "java/lang/String" "COMPACT_STRINGS" "Z" (.int zc)) (P5 : ¬ zc = 0) (r : Int32) (h0 : Heap) (n0 : Nat) (ho : Old Z n0 h0) (F : Str Z h0 x t [c0, c1, c2, c3, c4]) (r0 : ¬ c0 < 0 ∧ ¬ (255 : Int32) < c0) (r1 : ¬ c1 < 0 ∧ ¬ (255 : Int32) < c1) (r2 : ¬ c2 < 0 ∧ ¬ (255 : Int32) < c2) (r3 : ¬ c3 < 0 ∧ ¬ (255 : Int32) < c3) (r4 : ¬ c4 < 0 ∧ ¬ (255 : Int32) < c4) (hr : (if 0 < idxL [c0, c1, c2, c3, c4] 0 then 1 else 0) = r) :
    CN l (⟨"com/example/confinement/confinement/monitor/Sites", "isFamily", "(Ljava/lang/String;)Z"⟩ : MethodName) prog_13_method_2_code 1 (some .boolean) [] ({ frames := 4, cells := 0, slots := 0, locals := 100 } : Room) Z n0 h0 #[(.ref x)] [] (fun v h => v = some (.int r) ∧ h = h0) := by
  refine CN.walk (plainFor_of_name pn2) ho (L0 := #[.val (.ref x)]) (fun m => rfl) ?_
  intro pG e s m below meth cO T hlk hret hnm A0
  have K0 : Keep h0 h0 [] := Keep.refl _ _
  refine f_aloadN A0 d6_0 (pc' := 1) rfl rfl rfl ?_
  refine f_bipush A0 d6_1 (pc' := 3) rfl 32 rfl ?_
  refine f_callV A0 (a := x) d6_3 (pc' := 6) rfl (wd hw 33 rfl) (wd hw 34 rfl) (nfS A0 (wd hw 36 rfl)) (wd hw 36 rfl) (wd hw 35 rfl) (by decide) F.exa pd6 [(.int (32 : Int32))] [] rfl rfl rfl 0 (Nat.le_of_eq rfl) (CN.pay (W := 0) A0 (m_i5 l Z a0 hw x t c0 c1 c2 c3 c4 zc O2 P5 h0 n0 A0.old F r0 r1 r2 r3 r4) (wd hw 37 rfl) (wd hw 9 rfl) (by decide) (by decide)) (kc := 0) (ks := 0) (by decide) (by decide) all0 (fun q => nomatch q) fun v162 T162 h162 L162 A162 K162 q162 => ?_
  obtain ⟨rfl, hh162⟩ := q162
  obtain rfl := hh162.symm
  show Wp pG e below _ T162 (mkF m 6 _ [(.int (idxL [c0, c1, c2, c3, c4] 0))])
  by_cases q : (0 : Int32) < (idxL [c0, c1, c2, c3, c4] 0)
  · refine f_ifN A162 d6_6 ((if0 _ _).trans (tlt q).2.2.2) (pc' := 9) rfl ?_
    refine f_iconst A162 d6_9 (pc' := 10) rfl 1 rfl ?_
    refine f_goto A162 d6_10 (pc' := 14) (by decide) (by decide) ?_
    exact f_retBN A162 hlk hret d6_14 (by decide) (1 : Int32) (by decide) (by decide) (by decide) K0 ⟨by rw [← hr, if_pos q], rfl⟩
  · refine f_ifY A162 d6_6 ((if0 _ _).trans (flt q).2.2.2) (pc' := 13) (by decide) (by decide) ?_
    refine f_iconst A162 d6_13 (pc' := 14) rfl 0 rfl ?_
    exact f_retBN A162 hlk hret d6_14 (by decide) (0 : Int32) (by decide) (by decide) (by decide) K0 ⟨by rw [← hr, if_neg q], rfl⟩
theorem d2_120 : decode method_3_code 120 = .ok (.new 7, 3) := by decide +kernel
theorem d2_123 : decode method_3_code 123 = .ok (.dup, 1) := by decide +kernel
theorem d2_124 : decode method_3_code 124 = .ok (.iconst 5, 1) := by decide +kernel
theorem d2_125 : decode method_3_code 125 = .ok (.newarray .char, 2) := by decide +kernel
theorem d2_127 : decode method_3_code 127 = .ok (.dup, 1) := by decide +kernel
theorem d2_128 : decode method_3_code 128 = .ok (.iconst 0, 1) := by decide +kernel
theorem d2_129 : decode method_3_code 129 = .ok (.iload_n 1, 1) := by decide +kernel
theorem d2_130 : decode method_3_code 130 = .ok (.castore, 1) := by decide +kernel
theorem d2_131 : decode method_3_code 131 = .ok (.dup, 1) := by decide +kernel
theorem d2_132 : decode method_3_code 132 = .ok (.iconst 1, 1) := by decide +kernel
theorem d2_133 : decode method_3_code 133 = .ok (.iload_n 2, 1) := by decide +kernel
theorem d2_134 : decode method_3_code 134 = .ok (.castore, 1) := by decide +kernel
theorem d2_135 : decode method_3_code 135 = .ok (.dup, 1) := by decide +kernel
theorem d2_136 : decode method_3_code 136 = .ok (.iconst 2, 1) := by decide +kernel
theorem d2_137 : decode method_3_code 137 = .ok (.iload_n 3, 1) := by decide +kernel
theorem d2_138 : decode method_3_code 138 = .ok (.castore, 1) := by decide +kernel
theorem d2_139 : decode method_3_code 139 = .ok (.dup, 1) := by decide +kernel
theorem d2_140 : decode method_3_code 140 = .ok (.iconst 3, 1) := by decide +kernel
theorem d2_141 : decode method_3_code 141 = .ok (.iload 4, 2) := by decide +kernel
theorem d2_143 : decode method_3_code 143 = .ok (.castore, 1) := by decide +kernel
theorem d2_144 : decode method_3_code 144 = .ok (.dup, 1) := by decide +kernel
theorem d2_145 : decode method_3_code 145 = .ok (.iconst 4, 1) := by decide +kernel
theorem d2_146 : decode method_3_code 146 = .ok (.iload 5, 2) := by decide +kernel
theorem d2_148 : decode method_3_code 148 = .ok (.castore, 1) := by decide +kernel
theorem d2_149 : decode method_3_code 149 = .ok (.invokespecial 9, 3) := by decide +kernel
theorem d2_152 : decode method_3_code 152 = .ok (.areturn, 1) := by decide +kernel
set_option maxRecDepth 65536 in
set_option maxHeartbeats 40000000 in
theorem m_make5 (l : Launch) (Z : State) (a0 : Array Value) (hw : ∀ d ∈ tables_1, d.before a0 Z = true) (c0 c1 c2 c3 c4 : Int32) (zc : Int32) (O2 : Sta Z Z.heap "java/lang/String" "COMPACT_STRINGS" "Z" (.int zc)) (P5 : ¬ zc = 0) (h0 : Heap) (n0 : Nat) (ho : Old Z n0 h0) (hEL : EW Z a0 ELs) (r0 : ¬ c0 < 0 ∧ ¬ (255 : Int32) < c0) (r1 : ¬ c1 < 0 ∧ ¬ (255 : Int32) < c1) (r2 : ¬ c2 < 0 ∧ ¬ (255 : Int32) < c2) (r3 : ¬ c3 < 0 ∧ ¬ (255 : Int32) < c3) (r4 : ¬ c4 < 0 ∧ ¬ (255 : Int32) < c4) :
    CW l (⟨"com/example/confinement/confinement/monitor/SitesIsFamilyPinLaw", "make", "(ICCCCC)Ljava/lang/String;"⟩ : MethodName) method_3_code 6 (some (.object "java/lang/String")) [] ({ frames := 5, cells := 5, slots := 20, locals := 90 } : Room) Z ELs [] n0 h0 #[(.int (5 : Int32)), (.int c0), (.int c1), (.int c2), (.int c3), (.int c4)] [] (fun v h => ∃ (x t : Addr), v = some (.ref x) ∧ h0.size ≤ x ∧ Str Z h x t [c0, c1, c2, c3, c4]) := by
  refine CW.walk (plainFor_of_name pn3) ho (L0 := #[.val (.int (5 : Int32)), .val (.int c0), .val (.int c1), .val (.int c2), .val (.int c3), .val (.int c4)]) (fun m => rfl) ?_
  intro pG e s m below meth cO T hlk hret hnm hSL A0
  have K0 : Keep h0 h0 [] := Keep.refl _ _
  refine f_iloadN A0 d2_0 (pc' := 1) rfl rfl ?_
  refine f_ifY A0 d2_1 ((if0 _ _).trans (feq (by decide : ¬ (5 : Int32) = (0 : Int32))).2) (pc' := 15) (by decide) (by decide) ?_
  refine f_iloadN A0 d2_15 (pc' := 16) rfl rfl ?_
  refine f_iconst A0 d2_16 (pc' := 17) rfl 1 rfl ?_
  refine f_icY A0 d2_17 (feq (by decide : ¬ (5 : Int32) = (1 : Int32))).2 (pc' := 35) (by decide) (by decide) ?_
  refine f_iloadN A0 d2_35 (pc' := 36) rfl rfl ?_
  refine f_iconst A0 d2_36 (pc' := 37) rfl 2 rfl ?_
  refine f_icY A0 d2_37 (feq (by decide : ¬ (5 : Int32) = (2 : Int32))).2 (pc' := 59) (by decide) (by decide) ?_
  refine f_iloadN A0 d2_59 (pc' := 60) rfl rfl ?_
  refine f_iconst A0 d2_60 (pc' := 61) rfl 3 rfl ?_
  refine f_icY A0 d2_61 (feq (by decide : ¬ (5 : Int32) = (3 : Int32))).2 (pc' := 87) (by decide) (by decide) ?_
  refine f_iloadN A0 d2_87 (pc' := 88) rfl rfl ?_
  refine f_iconst A0 d2_88 (pc' := 89) rfl 4 rfl ?_
  refine f_icY A0 d2_89 (feq (by decide : ¬ (5 : Int32) = (4 : Int32))).2 (pc' := 120) (by decide) (by decide) ?_
  refine f_new A0 d2_120 (pc' := 123) rfl (wd hw 7 rfl) (wd hw 8 rfl) (wd hw 9 rfl) (by decide) (by decide) fun a163 T163 h163 g163 A163 E163 X163 D163 => ?_
  have z163 : n0 ≤ a163 := Nat.le_trans A0.sz (Nat.le_of_eq g163.symm)
  have y163 : h0.size ≤ a163 := Nat.le_trans K0.1 (Nat.le_of_eq g163.symm)
  have Q164 : Keep h0 h163 [] := K0.ext E163
  have s163 := Safe.ext E163 (A0.ch rfl).1 (Safe.new (Nat.le_of_eq g163.symm))
  refine f_dup A163 d2_123 (pc' := 124) rfl rfl ?_
  refine f_iconst A163 d2_124 (pc' := 125) rfl 5 rfl ?_
  refine f_newP A163 5 d2_125 (pc' := 127) rfl (wd hw 10 rfl) (by decide) (by decide) (by decide) (by decide) (by decide) (ad := "[C") (by decide) fun a165 T165 h165 k165 g165 A165 E165 F165 X165 => ?_
  have z165 : n0 ≤ a165 := Nat.le_trans A163.sz (Nat.le_of_eq g165.symm)
  have y165 : h0.size ≤ a165 := Nat.le_trans Q164.1 (Nat.le_of_eq g165.symm)
  have Q166 : Keep h0 h165 [] := Q164.ext E165
  have V165 : Arv Z h165 a165 k165 .char (5 : Int32) [(.int (0 : Int32)), (.int (0 : Int32)), (.int (0 : Int32)), (.int (0 : Int32)), (.int (0 : Int32))] (.int (0 : Int32)) := F165.pad (pad_rep [] (.int (0 : Int32)) 5)
  refine f_dup A165 d2_127 (pc' := 128) rfl rfl ?_
  refine f_iconst A165 d2_128 (pc' := 129) rfl 0 rfl ?_
  refine f_iloadN A165 d2_129 (pc' := 130) rfl rfl ?_
  refine f_castore A165 d2_130 (pc' := 131) rfl V165 ⟨by decide, by decide⟩ 0 (by decide) (Nat.le_of_ble_eq_true rfl) c0 (nar_id (by have := of_lat r0; omega)) (vs' := [(.int c0), (.int (0 : Int32)), (.int (0 : Int32)), (.int (0 : Int32)), (.int (0 : Int32))]) rfl z165 (fun _ => (Safe.exa A165.hZ.alike X165 (by decide) (by decide))) fun T167 h167 A167 K167 V167 => ?_
  have Q168 : Keep h0 h167 [] := Q166.trans K167 (allS (Or.inr y165) all0)
  refine f_dup A167 d2_131 (pc' := 132) rfl rfl ?_
  refine f_iconst A167 d2_132 (pc' := 133) rfl 1 rfl ?_
  refine f_iloadN A167 d2_133 (pc' := 134) rfl rfl ?_
  have c170 := (X165.keep K167)
  refine f_castore A167 d2_134 (pc' := 135) rfl V167 ⟨by decide, by decide⟩ 1 (by decide) (Nat.le_of_ble_eq_true rfl) c1 (nar_id (by have := of_lat r1; omega)) (vs' := [(.int c0), (.int c1), (.int (0 : Int32)), (.int (0 : Int32)), (.int (0 : Int32))]) rfl z165 (fun _ => (Safe.exa A167.hZ.alike c170 (by decide) (by decide))) fun T169 h169 A169 K169 V169 => ?_
  have Q171 : Keep h0 h169 [] := Q168.trans K169 (allS (Or.inr y165) all0)
  refine f_dup A169 d2_135 (pc' := 136) rfl rfl ?_
  refine f_iconst A169 d2_136 (pc' := 137) rfl 2 rfl ?_
  refine f_iloadN A169 d2_137 (pc' := 138) rfl rfl ?_
  have c173 := (c170.keep K169)
  refine f_castore A169 d2_138 (pc' := 139) rfl V169 ⟨by decide, by decide⟩ 2 (by decide) (Nat.le_of_ble_eq_true rfl) c2 (nar_id (by have := of_lat r2; omega)) (vs' := [(.int c0), (.int c1), (.int c2), (.int (0 : Int32)), (.int (0 : Int32))]) rfl z165 (fun _ => (Safe.exa A169.hZ.alike c173 (by decide) (by decide))) fun T172 h172 A172 K172 V172 => ?_
  have Q174 : Keep h0 h172 [] := Q171.trans K172 (allS (Or.inr y165) all0)
  refine f_dup A172 d2_139 (pc' := 140) rfl rfl ?_
  refine f_iconst A172 d2_140 (pc' := 141) rfl 3 rfl ?_
  refine f_iload A172 d2_141 (pc' := 143) rfl rfl ?_
  have c176 := (c173.keep K172)
  refine f_castore A172 d2_143 (pc' := 144) rfl V172 ⟨by decide, by decide⟩ 3 (by decide) (Nat.le_of_ble_eq_true rfl) c3 (nar_id (by have := of_lat r3; omega)) (vs' := [(.int c0), (.int c1), (.int c2), (.int c3), (.int (0 : Int32))]) rfl z165 (fun _ => (Safe.exa A172.hZ.alike c176 (by decide) (by decide))) fun T175 h175 A175 K175 V175 => ?_
  have Q177 : Keep h0 h175 [] := Q174.trans K175 (allS (Or.inr y165) all0)
  refine f_dup A175 d2_144 (pc' := 145) rfl rfl ?_
  refine f_iconst A175 d2_145 (pc' := 146) rfl 4 rfl ?_
  refine f_iload A175 d2_146 (pc' := 148) rfl rfl ?_
  have c179 := (c176.keep K175)
  refine f_castore A175 d2_148 (pc' := 149) rfl V175 ⟨by decide, by decide⟩ 4 (by decide) (Nat.le_of_ble_eq_true rfl) c4 (nar_id (by have := of_lat r4; omega)) (vs' := [(.int c0), (.int c1), (.int c2), (.int c3), (.int c4)]) rfl z165 (fun _ => (Safe.exa A175.hZ.alike c179 (by decide) (by decide))) fun T178 h178 A178 K178 V178 => ?_
  have Q180 : Keep h0 h178 [] := Q177.trans K178 (allS (Or.inr y165) all0)
  have c181 := ((((((X163.ext E165).keep K167).keep K169).keep K172).keep K175).keep K178)
  have c182 := (((((((show Fld Z h163 a163 "java/lang/String" "value" "[B" .null from D163 (Or.inr (wd hw 23 rfl)) (ty := (.array .byte)) (by decide)).ext E165).keep K167 (ninS (Nat.ne_of_lt (Nat.lt_of_lt_of_le X163.lt (Nat.le_of_eq g165.symm))) nin0)).keep K169 (ninS (Nat.ne_of_lt (Nat.lt_of_lt_of_le X163.lt (Nat.le_of_eq g165.symm))) nin0)).keep K172 (ninS (Nat.ne_of_lt (Nat.lt_of_lt_of_le X163.lt (Nat.le_of_eq g165.symm))) nin0)).keep K175 (ninS (Nat.ne_of_lt (Nat.lt_of_lt_of_le X163.lt (Nat.le_of_eq g165.symm))) nin0)).keep K178 (ninS (Nat.ne_of_lt (Nat.lt_of_lt_of_le X163.lt (Nat.le_of_eq g165.symm))) nin0))
  have c183 := (((((((show Fld Z h163 a163 "java/lang/String" "coder" "B" (.int (0 : Int32)) from D163 (Or.inr (wd hw 24 rfl)) (ty := .byte) (by decide)).ext E165).keep K167 (ninS (Nat.ne_of_lt (Nat.lt_of_lt_of_le X163.lt (Nat.le_of_eq g165.symm))) nin0)).keep K169 (ninS (Nat.ne_of_lt (Nat.lt_of_lt_of_le X163.lt (Nat.le_of_eq g165.symm))) nin0)).keep K172 (ninS (Nat.ne_of_lt (Nat.lt_of_lt_of_le X163.lt (Nat.le_of_eq g165.symm))) nin0)).keep K175 (ninS (Nat.ne_of_lt (Nat.lt_of_lt_of_le X163.lt (Nat.le_of_eq g165.symm))) nin0)).keep K178 (ninS (Nat.ne_of_lt (Nat.lt_of_lt_of_le X163.lt (Nat.le_of_eq g165.symm))) nin0))
  have c185 := (Safe.keep K178 (sfS (Safe.exa A175.hZ.alike c179 (by decide) (by decide)) sf0) (A175.ch rfl).1 (Safe.keep K175 (sfS (Safe.exa A172.hZ.alike c176 (by decide) (by decide)) sf0) (A172.ch rfl).1 (Safe.keep K172 (sfS (Safe.exa A169.hZ.alike c173 (by decide) (by decide)) sf0) (A169.ch rfl).1 (Safe.keep K169 (sfS (Safe.exa A167.hZ.alike c170 (by decide) (by decide)) sf0) (A167.ch rfl).1 (Safe.keep K167 (sfS (Safe.exa A165.hZ.alike X165 (by decide) (by decide)) sf0) (A165.ch rfl).1 (Safe.ext E165 (A163.ch rfl).1 s163))))))
  refine f_callI A178 (a := a163) d2_149 (pc' := 152) rfl rfl (wd hw 11 rfl) (wd hw 12 rfl) (wd hw 13 rfl) (by decide) pd7 [(.ref a165)] [(.ref a163)] rfl rfl rfl 1 (Nat.le_of_eq rfl) (payNew (W := 1) A178 hw (wd hw 8 rfl) (cs := [c0, c1, c2, c3, c4]) 5 z163 c181 c182 c183 V178 O2 P5 rfl rfl (by decide) (by decide) (lc r0 (lc r1 (lc r2 (lc r3 (lc r4 ln))))) (by decide) (by decide)) (kc := 1) (ks := 5) (by decide) (by decide) (allS z163 all0) (fun _ => (sfS c185 sf0)) fun v184 T184 h184 L184 A184 K184 q184 => ?_
  have Q186 : Keep h0 h184 [] := Q180.trans K184 (allS (Or.inr y163) all0)
  obtain ⟨rfl, t184, tz184, tg184, tn184, G184⟩ := q184
  show Wp pG e below _ T184 (mkF m 152 _ [(.ref a163)])
  exact f_retRW A184 hEL hlk hret d2_152 rfl rfl (by decide) (by decide) Q186 ⟨a163, t184, rfl, y163, G184⟩
def pickV (x : Int32) : Int32 := if x &&& 256 = 0 then x &&& 255 else 32
theorem pick_rng (x : Int32) : 0 ≤ (pickV x).toInt ∧ (pickV x).toInt ≤ 255 := by
  unfold pickV; split
  · exact and255 x
  · decide
theorem d1_0 : decode method_2_code 0 = .ok (.iload_n 0, 1) := by decide +kernel
theorem d1_1 : decode method_2_code 1 = .ok (.sipush 256, 3) := by decide +kernel
theorem d1_4 : decode method_2_code 4 = .ok (.iand, 1) := by decide +kernel
theorem d1_5 : decode method_2_code 5 = .ok (.ifCond .eq 6, 3) := by decide +kernel
theorem d1_11 : decode method_2_code 11 = .ok (.iload_n 0, 1) := by decide +kernel
theorem d1_12 : decode method_2_code 12 = .ok (.sipush 255, 3) := by decide +kernel
theorem d1_15 : decode method_2_code 15 = .ok (.iand, 1) := by decide +kernel
theorem d1_16 : decode method_2_code 16 = .ok (.i2c, 1) := by decide +kernel
theorem d1_17 : decode method_2_code 17 = .ok (.ireturn, 1) := by decide +kernel
theorem d1_8 : decode method_2_code 8 = .ok (.bipush 32, 2) := by decide +kernel
theorem d1_10 : decode method_2_code 10 = .ok (.ireturn, 1) := by decide +kernel
set_option maxRecDepth 65536 in
set_option maxHeartbeats 40000000 in
theorem m_pick (l : Launch) (Z : State) (a0 : Array Value) (hw : ∀ d ∈ tables_1, d.before a0 Z = true) (x c0 : Int32) (h0 : Heap) (n0 : Nat) (ho : Old Z n0 h0) (hc : pickV x = c0) :
    CN l (⟨"com/example/confinement/confinement/monitor/SitesIsFamilyPinLaw", "pick", "(I)C"⟩ : MethodName) method_2_code 1 (some .char) [] ({ frames := 0, cells := 0, slots := 0, locals := 0 } : Room) Z n0 h0 #[(.int x)] [] (fun v h => v = some (.int c0) ∧ h = h0) := by
  refine CN.walk (plainFor_of_name pn3) ho (L0 := #[.val (.int x)]) (fun m => rfl) ?_
  intro pG e s m below meth cO T hlk hret hnm A0
  have K0 : Keep h0 h0 [] := Keep.refl _ _
  refine f_iloadN A0 d1_0 (pc' := 1) rfl rfl ?_
  refine f_sipush A0 d1_1 (pc' := 4) rfl 256 rfl ?_
  refine f_iand A0 d1_4 (pc' := 5) rfl (x &&& (256 : Int32)) rfl ?_
  by_cases q : (x &&& (256 : Int32)) = (0 : Int32)
  · refine f_ifY A0 d1_5 ((if0 _ _).trans (teq q).1) (pc' := 11) (by decide) (by decide) ?_
    refine f_iloadN A0 d1_11 (pc' := 12) rfl rfl ?_
    refine f_sipush A0 d1_12 (pc' := 15) rfl 255 rfl ?_
    refine f_iand A0 d1_15 (pc' := 16) rfl (x &&& (255 : Int32)) rfl ?_
    refine f_i2c A0 d1_16 (pc' := 17) rfl (x &&& (255 : Int32)) (chr_id (by have := and255 x; omega)) ?_
    exact f_retBN A0 hlk hret d1_17 (by decide) (x &&& (255 : Int32)) (nar_id (by have := and255 x; omega)) (by decide) (by decide) K0 ⟨by rw [← hc, pickV, if_pos q], rfl⟩
  · refine f_ifN A0 d1_5 ((if0 _ _).trans (feq q).1) (pc' := 8) rfl ?_
    refine f_bipush A0 d1_8 (pc' := 10) rfl 32 rfl ?_
    exact f_retBN A0 hlk hret d1_10 (by decide) (32 : Int32) (by decide) (by decide) (by decide) K0 ⟨by rw [← hc, pickV, if_neg q], rfl⟩
theorem lt6 (x : Int32) {k : Int32} (h : (x &&& 7) % 6 = k) : k = 0 ∨ k = 1 ∨ k = 2 ∨ k = 3 ∨ k = 4 ∨ k = 5 := by
  have q := c_and x 7 (by decide); have a := (c_irem (x &&& 7) 6 6 rfl).1 q.1; rw [h] at a
  have : k.toInt = 0 ∨ k.toInt = 1 ∨ k.toInt = 2 ∨ k.toInt = 3 ∨ k.toInt = 4 ∨ k.toInt = 5 := by omega
  rcases this with z | z | z | z | z | z
  · exact Or.inl (Int32.toInt_inj.mp z)
  · exact Or.inr (Or.inl (Int32.toInt_inj.mp z))
  · exact Or.inr (Or.inr (Or.inl (Int32.toInt_inj.mp z)))
  · exact Or.inr (Or.inr (Or.inr (Or.inl (Int32.toInt_inj.mp z))))
  · exact Or.inr (Or.inr (Or.inr (Or.inr (Or.inl (Int32.toInt_inj.mp z)))))
  · exact Or.inr (Or.inr (Or.inr (Or.inr (Or.inr (Int32.toInt_inj.mp z)))))
theorem pd8 : parseMethodDescriptor "(I)C" = some ⟨[.int], some .char⟩ := by decide +kernel
theorem pd9 : parseMethodDescriptor "(ICCCCC)Ljava/lang/String;" = some ⟨[.int, .char, .char, .char, .char, .char], some (.object "java/lang/String")⟩ := by decide +kernel
theorem pd10 : parseMethodDescriptor "(Ljava/lang/String;)Z" = some ⟨[(.object "java/lang/String")], some .boolean⟩ := by decide +kernel
set_option maxRecDepth 65536 in
set_option maxHeartbeats 40000000 in
theorem m_law (l : Launch) (Z : State) (a0 : Array Value) (hw : ∀ d ∈ tables_1, d.before a0 Z = true) (ws : List Jvm.Cond) (len x0 x1 x2 x3 x4 : Int32) (zc : Int32) (O2 : Sta Z Z.heap "java/lang/String" "COMPACT_STRINGS" "Z" (.int zc)) (P5 : ¬ zc = 0) (h0 : Heap) (n0 : Nat) (ho : Old Z n0 h0) (hEL : EW Z a0 ELs)  :
    CW l x code maxLocals ret ws room_1 Z ELs [] n0 h0 #[(.int len), (.int x0), (.int x1), (.int x2), (.int x3), (.int x4)] [] (fun v h => v = some (.int 1)) := by
  refine CW.walk (plainFor_of_name pn3) ho (L0 := #[.val (.int len), .val (.int x0), .val (.int x1), .val (.int x2), .val (.int x3), .val (.int x4), .unset, .unset, .unset, .unset, .unset, .unset, .unset, .unset, .unset, .unset]) (fun m => rfl) ?_
  intro pG e s m below meth cO T hlk hret hnm hSL A0
  have K0 : Keep h0 h0 [] := Keep.refl _ _
  obtain ⟨c0, hc0⟩ : ∃ z, pickV x0 = z := ⟨_, rfl⟩
  have r0 := lat_of (hc0 ▸ pick_rng x0)
  obtain ⟨c1, hc1⟩ : ∃ z, pickV x1 = z := ⟨_, rfl⟩
  have r1 := lat_of (hc1 ▸ pick_rng x1)
  obtain ⟨c2, hc2⟩ : ∃ z, pickV x2 = z := ⟨_, rfl⟩
  have r2 := lat_of (hc2 ▸ pick_rng x2)
  obtain ⟨c3, hc3⟩ : ∃ z, pickV x3 = z := ⟨_, rfl⟩
  have r3 := lat_of (hc3 ▸ pick_rng x3)
  obtain ⟨c4, hc4⟩ : ∃ z, pickV x4 = z := ⟨_, rfl⟩
  have r4 := lat_of (hc4 ▸ pick_rng x4)
  obtain ⟨k, hk⟩ : ∃ k, (len &&& 7) % 6 = k := ⟨_, rfl⟩
  rcases lt6 len hk with rfl | rfl | rfl | rfl | rfl | rfl
  · refine f_iloadN A0 at_0 (pc' := 1) rfl rfl ?_
    refine f_bipush A0 at_1 (pc' := 3) rfl 7 rfl ?_
    refine f_iand A0 at_3 (pc' := 4) rfl (len &&& (7 : Int32)) rfl ?_
    refine f_bipush A0 at_4 (pc' := 6) rfl 6 rfl ?_
    refine f_irem A0 at_6 (pc' := 7) rfl (by decide) (0 : Int32) hk ?_
    refine f_istore A0 at_7 (pc' := 9) rfl (L' := #[.val (.int len), .val (.int x0), .val (.int x1), .val (.int x2), .val (.int x3), .val (.int x4), .val (.int (0 : Int32)), .unset, .unset, .unset, .unset, .unset, .unset, .unset, .unset, .unset]) rfl ?_
    refine f_iloadN A0 at_9 (pc' := 10) rfl rfl ?_
    refine f_callS A0 at_10 (pc' := 13) rfl (wd hw 0 rfl) (wd hw 1 rfl) (wd hw 2 rfl) (wd hw 3 rfl) (by decide) pd8 [(.int x0)] [] rfl rfl rfl 0 (Nat.le_of_eq rfl) (CN.pay (W := 0) A0 (m_pick l Z a0 hw x0 c0 h0 n0 A0.old hc0) (wd hw 3 rfl) (wd hw 2 rfl) (by decide) (by decide)) (kc := 0) (ks := 0) (by decide) (by decide) all0 (fun _ => sf0) fun v187 T187 h187 L187 A187 K187 q187 => ?_
    obtain ⟨rfl, hh187⟩ := q187
    obtain rfl := hh187.symm
    show Wp pG e below _ T187 (mkF m 13 _ [(.int c0)])
    refine f_istore A187 at_13 (pc' := 15) rfl (L' := #[.val (.int len), .val (.int x0), .val (.int x1), .val (.int x2), .val (.int x3), .val (.int x4), .val (.int (0 : Int32)), .val (.int c0), .unset, .unset, .unset, .unset, .unset, .unset, .unset, .unset]) rfl ?_
    refine f_iloadN A187 at_15 (pc' := 16) rfl rfl ?_
    refine f_callS A187 at_16 (pc' := 19) rfl (wd hw 0 rfl) (wd hw 1 rfl) (wd hw 2 rfl) (wd hw 3 rfl) (by decide) pd8 [(.int x1)] [] rfl rfl rfl 0 (Nat.le_of_eq rfl) (CN.pay (W := 0) A187 (m_pick l Z a0 hw x1 c1 h0 n0 A187.old hc1) (wd hw 3 rfl) (wd hw 2 rfl) (by decide) (by decide)) (kc := 0) (ks := 0) (by decide) (by decide) all0 (fun _ => sf0) fun v188 T188 h188 L188 A188 K188 q188 => ?_
    obtain ⟨rfl, hh188⟩ := q188
    obtain rfl := hh188.symm
    show Wp pG e below _ T188 (mkF m 19 _ [(.int c1)])
    refine f_istore A188 at_19 (pc' := 21) rfl (L' := #[.val (.int len), .val (.int x0), .val (.int x1), .val (.int x2), .val (.int x3), .val (.int x4), .val (.int (0 : Int32)), .val (.int c0), .val (.int c1), .unset, .unset, .unset, .unset, .unset, .unset, .unset]) rfl ?_
    refine f_iloadN A188 at_21 (pc' := 22) rfl rfl ?_
    refine f_callS A188 at_22 (pc' := 25) rfl (wd hw 0 rfl) (wd hw 1 rfl) (wd hw 2 rfl) (wd hw 3 rfl) (by decide) pd8 [(.int x2)] [] rfl rfl rfl 0 (Nat.le_of_eq rfl) (CN.pay (W := 0) A188 (m_pick l Z a0 hw x2 c2 h0 n0 A188.old hc2) (wd hw 3 rfl) (wd hw 2 rfl) (by decide) (by decide)) (kc := 0) (ks := 0) (by decide) (by decide) all0 (fun _ => sf0) fun v189 T189 h189 L189 A189 K189 q189 => ?_
    obtain ⟨rfl, hh189⟩ := q189
    obtain rfl := hh189.symm
    show Wp pG e below _ T189 (mkF m 25 _ [(.int c2)])
    refine f_istore A189 at_25 (pc' := 27) rfl (L' := #[.val (.int len), .val (.int x0), .val (.int x1), .val (.int x2), .val (.int x3), .val (.int x4), .val (.int (0 : Int32)), .val (.int c0), .val (.int c1), .val (.int c2), .unset, .unset, .unset, .unset, .unset, .unset]) rfl ?_
    refine f_iload A189 at_27 (pc' := 29) rfl rfl ?_
    refine f_callS A189 at_29 (pc' := 32) rfl (wd hw 0 rfl) (wd hw 1 rfl) (wd hw 2 rfl) (wd hw 3 rfl) (by decide) pd8 [(.int x3)] [] rfl rfl rfl 0 (Nat.le_of_eq rfl) (CN.pay (W := 0) A189 (m_pick l Z a0 hw x3 c3 h0 n0 A189.old hc3) (wd hw 3 rfl) (wd hw 2 rfl) (by decide) (by decide)) (kc := 0) (ks := 0) (by decide) (by decide) all0 (fun _ => sf0) fun v190 T190 h190 L190 A190 K190 q190 => ?_
    obtain ⟨rfl, hh190⟩ := q190
    obtain rfl := hh190.symm
    show Wp pG e below _ T190 (mkF m 32 _ [(.int c3)])
    refine f_istore A190 at_32 (pc' := 34) rfl (L' := #[.val (.int len), .val (.int x0), .val (.int x1), .val (.int x2), .val (.int x3), .val (.int x4), .val (.int (0 : Int32)), .val (.int c0), .val (.int c1), .val (.int c2), .val (.int c3), .unset, .unset, .unset, .unset, .unset]) rfl ?_
    refine f_iload A190 at_34 (pc' := 36) rfl rfl ?_
    refine f_callS A190 at_36 (pc' := 39) rfl (wd hw 0 rfl) (wd hw 1 rfl) (wd hw 2 rfl) (wd hw 3 rfl) (by decide) pd8 [(.int x4)] [] rfl rfl rfl 0 (Nat.le_of_eq rfl) (CN.pay (W := 0) A190 (m_pick l Z a0 hw x4 c4 h0 n0 A190.old hc4) (wd hw 3 rfl) (wd hw 2 rfl) (by decide) (by decide)) (kc := 0) (ks := 0) (by decide) (by decide) all0 (fun _ => sf0) fun v191 T191 h191 L191 A191 K191 q191 => ?_
    obtain ⟨rfl, hh191⟩ := q191
    obtain rfl := hh191.symm
    show Wp pG e below _ T191 (mkF m 39 _ [(.int c4)])
    refine f_istore A191 at_39 (pc' := 41) rfl (L' := #[.val (.int len), .val (.int x0), .val (.int x1), .val (.int x2), .val (.int x3), .val (.int x4), .val (.int (0 : Int32)), .val (.int c0), .val (.int c1), .val (.int c2), .val (.int c3), .val (.int c4), .unset, .unset, .unset, .unset]) rfl ?_
    refine f_iload A191 at_41 (pc' := 43) rfl rfl ?_
    refine f_iload A191 at_43 (pc' := 45) rfl rfl ?_
    refine f_iload A191 at_45 (pc' := 47) rfl rfl ?_
    refine f_iload A191 at_47 (pc' := 49) rfl rfl ?_
    refine f_iload A191 at_49 (pc' := 51) rfl rfl ?_
    refine f_iload A191 at_51 (pc' := 53) rfl rfl ?_
    refine f_callSW A191 at_53 (pc' := 56) rfl (wd hw 4 rfl) (wd hw 5 rfl) (wd hw 2 rfl) (wd hw 6 rfl) (by decide) pd9 [(.int (0 : Int32)), (.int c0), (.int c1), (.int c2), (.int c3), (.int c4)] [] rfl rfl rfl 0 (Nat.le_of_eq rfl) (CW.pay (W := 0) A191 hEL (m_make0 l Z a0 hw c0 c1 c2 c3 c4 zc O2 P5 h0 n0 A191.old hEL r0 r1 r2 r3 r4) (wd hw 6 rfl) (wd hw 2 rfl) (by decide) (by decide) (fun _ q => nomatch q)) (kc := 5) (ks := 20) (by decide) (by decide) all0 fun v192 vm192 T192 h192 L192 A192 K192 C192 q192 => ?_
    have Q193 : Keep h0 h192 [] := K0.trans K192 all0
    obtain ⟨b192, t192, rfl, bg192, G192⟩ := q192
    show Wp pG e below _ T192 (mkF m 56 _ [(.ref b192)])
    refine f_astore A192 at_56 (pc' := 58) rfl rfl (L' := #[.val (.int len), .val (.int x0), .val (.int x1), .val (.int x2), .val (.int x3), .val (.int x4), .val (.int (0 : Int32)), .val (.int c0), .val (.int c1), .val (.int c2), .val (.int c3), .val (.int c4), .val (.ref b192), .unset, .unset, .unset]) rfl ?_
    refine f_iload A192 at_58 (pc' := 60) rfl rfl ?_
    refine f_ifY A192 at_60 ((if0 _ _).trans (flt (by decide : ¬ (0 : Int32) < (0 : Int32))).2.2.2) (pc' := 74) (by decide) (by decide) ?_
    refine f_iconst A192 at_74 (pc' := 75) rfl 0 rfl ?_
    refine f_istore A192 at_75 (pc' := 77) rfl (L' := #[.val (.int len), .val (.int x0), .val (.int x1), .val (.int x2), .val (.int x3), .val (.int x4), .val (.int (0 : Int32)), .val (.int c0), .val (.int c1), .val (.int c2), .val (.int c3), .val (.int c4), .val (.ref b192), .val (.int (0 : Int32)), .unset, .unset]) rfl ?_
    refine f_iload A192 at_77 (pc' := 79) rfl rfl ?_
    refine f_iconst A192 at_79 (pc' := 80) rfl 1 rfl ?_
    refine f_icY A192 at_80 (flt (by decide : ¬ (1 : Int32) < (0 : Int32))).2.2.2 (pc' := 90) (by decide) (by decide) ?_
    refine f_iload A192 at_90 (pc' := 92) rfl rfl ?_
    refine f_iconst A192 at_92 (pc' := 93) rfl 2 rfl ?_
    refine f_icY A192 at_93 (flt (by decide : ¬ (2 : Int32) < (0 : Int32))).2.2.2 (pc' := 103) (by decide) (by decide) ?_
    refine f_iload A192 at_103 (pc' := 105) rfl rfl ?_
    refine f_iconst A192 at_105 (pc' := 106) rfl 3 rfl ?_
    refine f_icY A192 at_106 (flt (by decide : ¬ (3 : Int32) < (0 : Int32))).2.2.2 (pc' := 116) (by decide) (by decide) ?_
    refine f_iload A192 at_116 (pc' := 118) rfl rfl ?_
    refine f_iconst A192 at_118 (pc' := 119) rfl 4 rfl ?_
    refine f_icY A192 at_119 (flt (by decide : ¬ (4 : Int32) < (0 : Int32))).2.2.2 (pc' := 133) (by decide) (by decide) ?_
    refine f_iconst A192 at_133 (pc' := 134) rfl 0 rfl ?_
    refine f_istore A192 at_134 (pc' := 136) rfl (L' := #[.val (.int len), .val (.int x0), .val (.int x1), .val (.int x2), .val (.int x3), .val (.int x4), .val (.int (0 : Int32)), .val (.int c0), .val (.int c1), .val (.int c2), .val (.int c3), .val (.int c4), .val (.ref b192), .val (.int (0 : Int32)), .val (.int (0 : Int32)), .unset]) rfl ?_
    refine f_iload A192 at_136 (pc' := 138) rfl rfl ?_
    refine f_ifN A192 at_138 ((if0 _ _).trans (teq (by decide : (0 : Int32) = (0 : Int32))).2) (pc' := 141) rfl ?_
    refine f_iload A192 at_141 (pc' := 143) rfl rfl ?_
    refine f_ifY A192 at_143 ((if0 _ _).trans (teq (by decide : (0 : Int32) = (0 : Int32))).1) (pc' := 150) (by decide) (by decide) ?_
    refine f_iconst A192 at_150 (pc' := 151) rfl 0 rfl ?_
    refine f_istore A192 at_151 (pc' := 153) rfl (L' := #[.val (.int len), .val (.int x0), .val (.int x1), .val (.int x2), .val (.int x3), .val (.int x4), .val (.int (0 : Int32)), .val (.int c0), .val (.int c1), .val (.int c2), .val (.int c3), .val (.int c4), .val (.ref b192), .val (.int (0 : Int32)), .val (.int (0 : Int32)), .val (.int (0 : Int32))]) rfl ?_
    refine f_aload A192 at_153 (pc' := 155) rfl rfl rfl ?_
    refine f_callS A192 at_155 (pc' := 158) rfl (wd hw 29 rfl) (wd hw 30 rfl) (wd hw 31 rfl) (wd hw 32 rfl) (by decide) pd10 [(.ref b192)] [] rfl rfl rfl 0 (Nat.le_of_eq rfl) (CN.pay (W := 0) A192 (m_fam0 l Z a0 hw b192 t192  zc O2 P5 0 h192 n0 A192.old G192  (by simp [idxL, *])) (wd hw 32 rfl) (wd hw 31 rfl) (by decide) (by decide)) (kc := 0) (ks := 0) (by decide) (by decide) all0 (fun _ => sf0) fun v194 T194 h194 L194 A194 K194 q194 => ?_
    obtain ⟨rfl, hh194⟩ := q194
    obtain rfl := hh194.symm
    show Wp pG e below _ T194 (mkF m 158 _ [(.int (0 : Int32))])
    refine f_iload A194 at_158 (pc' := 160) rfl rfl ?_
    refine f_icN A194 at_160 (teq (by decide : (0 : Int32) = (0 : Int32))).2 (pc' := 163) rfl ?_
    refine f_iconst A194 at_163 (pc' := 164) rfl 1 rfl ?_
    refine f_goto A194 at_164 (pc' := 168) (by decide) (by decide) ?_
    exact f_retBW A194 hEL hlk hret at_168 (by decide) (1 : Int32) (by decide) (by decide) (by decide) Q193 rfl
  · refine f_iloadN A0 at_0 (pc' := 1) rfl rfl ?_
    refine f_bipush A0 at_1 (pc' := 3) rfl 7 rfl ?_
    refine f_iand A0 at_3 (pc' := 4) rfl (len &&& (7 : Int32)) rfl ?_
    refine f_bipush A0 at_4 (pc' := 6) rfl 6 rfl ?_
    refine f_irem A0 at_6 (pc' := 7) rfl (by decide) (1 : Int32) hk ?_
    refine f_istore A0 at_7 (pc' := 9) rfl (L' := #[.val (.int len), .val (.int x0), .val (.int x1), .val (.int x2), .val (.int x3), .val (.int x4), .val (.int (1 : Int32)), .unset, .unset, .unset, .unset, .unset, .unset, .unset, .unset, .unset]) rfl ?_
    refine f_iloadN A0 at_9 (pc' := 10) rfl rfl ?_
    refine f_callS A0 at_10 (pc' := 13) rfl (wd hw 0 rfl) (wd hw 1 rfl) (wd hw 2 rfl) (wd hw 3 rfl) (by decide) pd8 [(.int x0)] [] rfl rfl rfl 0 (Nat.le_of_eq rfl) (CN.pay (W := 0) A0 (m_pick l Z a0 hw x0 c0 h0 n0 A0.old hc0) (wd hw 3 rfl) (wd hw 2 rfl) (by decide) (by decide)) (kc := 0) (ks := 0) (by decide) (by decide) all0 (fun _ => sf0) fun v195 T195 h195 L195 A195 K195 q195 => ?_
    obtain ⟨rfl, hh195⟩ := q195
    obtain rfl := hh195.symm
    show Wp pG e below _ T195 (mkF m 13 _ [(.int c0)])
    refine f_istore A195 at_13 (pc' := 15) rfl (L' := #[.val (.int len), .val (.int x0), .val (.int x1), .val (.int x2), .val (.int x3), .val (.int x4), .val (.int (1 : Int32)), .val (.int c0), .unset, .unset, .unset, .unset, .unset, .unset, .unset, .unset]) rfl ?_
    refine f_iloadN A195 at_15 (pc' := 16) rfl rfl ?_
    refine f_callS A195 at_16 (pc' := 19) rfl (wd hw 0 rfl) (wd hw 1 rfl) (wd hw 2 rfl) (wd hw 3 rfl) (by decide) pd8 [(.int x1)] [] rfl rfl rfl 0 (Nat.le_of_eq rfl) (CN.pay (W := 0) A195 (m_pick l Z a0 hw x1 c1 h0 n0 A195.old hc1) (wd hw 3 rfl) (wd hw 2 rfl) (by decide) (by decide)) (kc := 0) (ks := 0) (by decide) (by decide) all0 (fun _ => sf0) fun v196 T196 h196 L196 A196 K196 q196 => ?_
    obtain ⟨rfl, hh196⟩ := q196
    obtain rfl := hh196.symm
    show Wp pG e below _ T196 (mkF m 19 _ [(.int c1)])
    refine f_istore A196 at_19 (pc' := 21) rfl (L' := #[.val (.int len), .val (.int x0), .val (.int x1), .val (.int x2), .val (.int x3), .val (.int x4), .val (.int (1 : Int32)), .val (.int c0), .val (.int c1), .unset, .unset, .unset, .unset, .unset, .unset, .unset]) rfl ?_
    refine f_iloadN A196 at_21 (pc' := 22) rfl rfl ?_
    refine f_callS A196 at_22 (pc' := 25) rfl (wd hw 0 rfl) (wd hw 1 rfl) (wd hw 2 rfl) (wd hw 3 rfl) (by decide) pd8 [(.int x2)] [] rfl rfl rfl 0 (Nat.le_of_eq rfl) (CN.pay (W := 0) A196 (m_pick l Z a0 hw x2 c2 h0 n0 A196.old hc2) (wd hw 3 rfl) (wd hw 2 rfl) (by decide) (by decide)) (kc := 0) (ks := 0) (by decide) (by decide) all0 (fun _ => sf0) fun v197 T197 h197 L197 A197 K197 q197 => ?_
    obtain ⟨rfl, hh197⟩ := q197
    obtain rfl := hh197.symm
    show Wp pG e below _ T197 (mkF m 25 _ [(.int c2)])
    refine f_istore A197 at_25 (pc' := 27) rfl (L' := #[.val (.int len), .val (.int x0), .val (.int x1), .val (.int x2), .val (.int x3), .val (.int x4), .val (.int (1 : Int32)), .val (.int c0), .val (.int c1), .val (.int c2), .unset, .unset, .unset, .unset, .unset, .unset]) rfl ?_
    refine f_iload A197 at_27 (pc' := 29) rfl rfl ?_
    refine f_callS A197 at_29 (pc' := 32) rfl (wd hw 0 rfl) (wd hw 1 rfl) (wd hw 2 rfl) (wd hw 3 rfl) (by decide) pd8 [(.int x3)] [] rfl rfl rfl 0 (Nat.le_of_eq rfl) (CN.pay (W := 0) A197 (m_pick l Z a0 hw x3 c3 h0 n0 A197.old hc3) (wd hw 3 rfl) (wd hw 2 rfl) (by decide) (by decide)) (kc := 0) (ks := 0) (by decide) (by decide) all0 (fun _ => sf0) fun v198 T198 h198 L198 A198 K198 q198 => ?_
    obtain ⟨rfl, hh198⟩ := q198
    obtain rfl := hh198.symm
    show Wp pG e below _ T198 (mkF m 32 _ [(.int c3)])
    refine f_istore A198 at_32 (pc' := 34) rfl (L' := #[.val (.int len), .val (.int x0), .val (.int x1), .val (.int x2), .val (.int x3), .val (.int x4), .val (.int (1 : Int32)), .val (.int c0), .val (.int c1), .val (.int c2), .val (.int c3), .unset, .unset, .unset, .unset, .unset]) rfl ?_
    refine f_iload A198 at_34 (pc' := 36) rfl rfl ?_
    refine f_callS A198 at_36 (pc' := 39) rfl (wd hw 0 rfl) (wd hw 1 rfl) (wd hw 2 rfl) (wd hw 3 rfl) (by decide) pd8 [(.int x4)] [] rfl rfl rfl 0 (Nat.le_of_eq rfl) (CN.pay (W := 0) A198 (m_pick l Z a0 hw x4 c4 h0 n0 A198.old hc4) (wd hw 3 rfl) (wd hw 2 rfl) (by decide) (by decide)) (kc := 0) (ks := 0) (by decide) (by decide) all0 (fun _ => sf0) fun v199 T199 h199 L199 A199 K199 q199 => ?_
    obtain ⟨rfl, hh199⟩ := q199
    obtain rfl := hh199.symm
    show Wp pG e below _ T199 (mkF m 39 _ [(.int c4)])
    refine f_istore A199 at_39 (pc' := 41) rfl (L' := #[.val (.int len), .val (.int x0), .val (.int x1), .val (.int x2), .val (.int x3), .val (.int x4), .val (.int (1 : Int32)), .val (.int c0), .val (.int c1), .val (.int c2), .val (.int c3), .val (.int c4), .unset, .unset, .unset, .unset]) rfl ?_
    refine f_iload A199 at_41 (pc' := 43) rfl rfl ?_
    refine f_iload A199 at_43 (pc' := 45) rfl rfl ?_
    refine f_iload A199 at_45 (pc' := 47) rfl rfl ?_
    refine f_iload A199 at_47 (pc' := 49) rfl rfl ?_
    refine f_iload A199 at_49 (pc' := 51) rfl rfl ?_
    refine f_iload A199 at_51 (pc' := 53) rfl rfl ?_
    refine f_callSW A199 at_53 (pc' := 56) rfl (wd hw 4 rfl) (wd hw 5 rfl) (wd hw 2 rfl) (wd hw 6 rfl) (by decide) pd9 [(.int (1 : Int32)), (.int c0), (.int c1), (.int c2), (.int c3), (.int c4)] [] rfl rfl rfl 0 (Nat.le_of_eq rfl) (CW.pay (W := 0) A199 hEL (m_make1 l Z a0 hw c0 c1 c2 c3 c4 zc O2 P5 h0 n0 A199.old hEL r0 r1 r2 r3 r4) (wd hw 6 rfl) (wd hw 2 rfl) (by decide) (by decide) (fun _ q => nomatch q)) (kc := 5) (ks := 20) (by decide) (by decide) all0 fun v200 vm200 T200 h200 L200 A200 K200 C200 q200 => ?_
    have Q201 : Keep h0 h200 [] := K0.trans K200 all0
    obtain ⟨b200, t200, rfl, bg200, G200⟩ := q200
    show Wp pG e below _ T200 (mkF m 56 _ [(.ref b200)])
    refine f_astore A200 at_56 (pc' := 58) rfl rfl (L' := #[.val (.int len), .val (.int x0), .val (.int x1), .val (.int x2), .val (.int x3), .val (.int x4), .val (.int (1 : Int32)), .val (.int c0), .val (.int c1), .val (.int c2), .val (.int c3), .val (.int c4), .val (.ref b200), .unset, .unset, .unset]) rfl ?_
    refine f_iload A200 at_58 (pc' := 60) rfl rfl ?_
    refine f_ifN A200 at_60 ((if0 _ _).trans (tlt (by decide : (0 : Int32) < (1 : Int32))).2.2.2) (pc' := 63) rfl ?_
    refine f_iload A200 at_63 (pc' := 65) rfl rfl ?_
    refine f_bipush A200 at_65 (pc' := 67) rfl 32 rfl ?_
    by_cases q0 : c0 = (32 : Int32)
    · refine f_icN A200 at_67 (teq q0).2 (pc' := 70) rfl ?_
      refine f_iconst A200 at_70 (pc' := 71) rfl 1 rfl ?_
      refine f_goto A200 at_71 (pc' := 75) (by decide) (by decide) ?_
      refine f_istore A200 at_75 (pc' := 77) rfl (L' := #[.val (.int len), .val (.int x0), .val (.int x1), .val (.int x2), .val (.int x3), .val (.int x4), .val (.int (1 : Int32)), .val (.int c0), .val (.int c1), .val (.int c2), .val (.int c3), .val (.int c4), .val (.ref b200), .val (.int (1 : Int32)), .unset, .unset]) rfl ?_
      refine f_iload A200 at_77 (pc' := 79) rfl rfl ?_
      refine f_iconst A200 at_79 (pc' := 80) rfl 1 rfl ?_
      refine f_icY A200 at_80 (flt (by decide : ¬ (1 : Int32) < (1 : Int32))).2.2.2 (pc' := 90) (by decide) (by decide) ?_
      refine f_iload A200 at_90 (pc' := 92) rfl rfl ?_
      refine f_iconst A200 at_92 (pc' := 93) rfl 2 rfl ?_
      refine f_icY A200 at_93 (flt (by decide : ¬ (2 : Int32) < (1 : Int32))).2.2.2 (pc' := 103) (by decide) (by decide) ?_
      refine f_iload A200 at_103 (pc' := 105) rfl rfl ?_
      refine f_iconst A200 at_105 (pc' := 106) rfl 3 rfl ?_
      refine f_icY A200 at_106 (flt (by decide : ¬ (3 : Int32) < (1 : Int32))).2.2.2 (pc' := 116) (by decide) (by decide) ?_
      refine f_iload A200 at_116 (pc' := 118) rfl rfl ?_
      refine f_iconst A200 at_118 (pc' := 119) rfl 4 rfl ?_
      refine f_icY A200 at_119 (flt (by decide : ¬ (4 : Int32) < (1 : Int32))).2.2.2 (pc' := 133) (by decide) (by decide) ?_
      refine f_iconst A200 at_133 (pc' := 134) rfl 0 rfl ?_
      refine f_istore A200 at_134 (pc' := 136) rfl (L' := #[.val (.int len), .val (.int x0), .val (.int x1), .val (.int x2), .val (.int x3), .val (.int x4), .val (.int (1 : Int32)), .val (.int c0), .val (.int c1), .val (.int c2), .val (.int c3), .val (.int c4), .val (.ref b200), .val (.int (1 : Int32)), .val (.int (0 : Int32)), .unset]) rfl ?_
      refine f_iload A200 at_136 (pc' := 138) rfl rfl ?_
      refine f_ifY A200 at_138 ((if0 _ _).trans (feq (by decide : ¬ (1 : Int32) = (0 : Int32))).2) (pc' := 150) (by decide) (by decide) ?_
      refine f_iconst A200 at_150 (pc' := 151) rfl 0 rfl ?_
      refine f_istore A200 at_151 (pc' := 153) rfl (L' := #[.val (.int len), .val (.int x0), .val (.int x1), .val (.int x2), .val (.int x3), .val (.int x4), .val (.int (1 : Int32)), .val (.int c0), .val (.int c1), .val (.int c2), .val (.int c3), .val (.int c4), .val (.ref b200), .val (.int (1 : Int32)), .val (.int (0 : Int32)), .val (.int (0 : Int32))]) rfl ?_
      refine f_aload A200 at_153 (pc' := 155) rfl rfl rfl ?_
      refine f_callS A200 at_155 (pc' := 158) rfl (wd hw 29 rfl) (wd hw 30 rfl) (wd hw 31 rfl) (wd hw 32 rfl) (by decide) pd10 [(.ref b200)] [] rfl rfl rfl 0 (Nat.le_of_eq rfl) (CN.pay (W := 0) A200 (m_fam1 l Z a0 hw b200 t200 c0 zc O2 P5 0 h200 n0 A200.old G200 r0 (by simp [idxL, *])) (wd hw 32 rfl) (wd hw 31 rfl) (by decide) (by decide)) (kc := 0) (ks := 0) (by decide) (by decide) all0 (fun _ => sf0) fun v202 T202 h202 L202 A202 K202 q202 => ?_
      obtain ⟨rfl, hh202⟩ := q202
      obtain rfl := hh202.symm
      show Wp pG e below _ T202 (mkF m 158 _ [(.int (0 : Int32))])
      refine f_iload A202 at_158 (pc' := 160) rfl rfl ?_
      refine f_icN A202 at_160 (teq (by decide : (0 : Int32) = (0 : Int32))).2 (pc' := 163) rfl ?_
      refine f_iconst A202 at_163 (pc' := 164) rfl 1 rfl ?_
      refine f_goto A202 at_164 (pc' := 168) (by decide) (by decide) ?_
      exact f_retBW A202 hEL hlk hret at_168 (by decide) (1 : Int32) (by decide) (by decide) (by decide) Q201 rfl
    · refine f_icY A200 at_67 (feq q0).2 (pc' := 74) (by decide) (by decide) ?_
      refine f_iconst A200 at_74 (pc' := 75) rfl 0 rfl ?_
      refine f_istore A200 at_75 (pc' := 77) rfl (L' := #[.val (.int len), .val (.int x0), .val (.int x1), .val (.int x2), .val (.int x3), .val (.int x4), .val (.int (1 : Int32)), .val (.int c0), .val (.int c1), .val (.int c2), .val (.int c3), .val (.int c4), .val (.ref b200), .val (.int (0 : Int32)), .unset, .unset]) rfl ?_
      refine f_iload A200 at_77 (pc' := 79) rfl rfl ?_
      refine f_iconst A200 at_79 (pc' := 80) rfl 1 rfl ?_
      refine f_icY A200 at_80 (flt (by decide : ¬ (1 : Int32) < (1 : Int32))).2.2.2 (pc' := 90) (by decide) (by decide) ?_
      refine f_iload A200 at_90 (pc' := 92) rfl rfl ?_
      refine f_iconst A200 at_92 (pc' := 93) rfl 2 rfl ?_
      refine f_icY A200 at_93 (flt (by decide : ¬ (2 : Int32) < (1 : Int32))).2.2.2 (pc' := 103) (by decide) (by decide) ?_
      refine f_iload A200 at_103 (pc' := 105) rfl rfl ?_
      refine f_iconst A200 at_105 (pc' := 106) rfl 3 rfl ?_
      refine f_icY A200 at_106 (flt (by decide : ¬ (3 : Int32) < (1 : Int32))).2.2.2 (pc' := 116) (by decide) (by decide) ?_
      refine f_iload A200 at_116 (pc' := 118) rfl rfl ?_
      refine f_iconst A200 at_118 (pc' := 119) rfl 4 rfl ?_
      refine f_icY A200 at_119 (flt (by decide : ¬ (4 : Int32) < (1 : Int32))).2.2.2 (pc' := 133) (by decide) (by decide) ?_
      refine f_iconst A200 at_133 (pc' := 134) rfl 0 rfl ?_
      refine f_istore A200 at_134 (pc' := 136) rfl (L' := #[.val (.int len), .val (.int x0), .val (.int x1), .val (.int x2), .val (.int x3), .val (.int x4), .val (.int (1 : Int32)), .val (.int c0), .val (.int c1), .val (.int c2), .val (.int c3), .val (.int c4), .val (.ref b200), .val (.int (0 : Int32)), .val (.int (0 : Int32)), .unset]) rfl ?_
      refine f_iload A200 at_136 (pc' := 138) rfl rfl ?_
      refine f_ifN A200 at_138 ((if0 _ _).trans (teq (by decide : (0 : Int32) = (0 : Int32))).2) (pc' := 141) rfl ?_
      refine f_iload A200 at_141 (pc' := 143) rfl rfl ?_
      refine f_ifY A200 at_143 ((if0 _ _).trans (teq (by decide : (0 : Int32) = (0 : Int32))).1) (pc' := 150) (by decide) (by decide) ?_
      refine f_iconst A200 at_150 (pc' := 151) rfl 0 rfl ?_
      refine f_istore A200 at_151 (pc' := 153) rfl (L' := #[.val (.int len), .val (.int x0), .val (.int x1), .val (.int x2), .val (.int x3), .val (.int x4), .val (.int (1 : Int32)), .val (.int c0), .val (.int c1), .val (.int c2), .val (.int c3), .val (.int c4), .val (.ref b200), .val (.int (0 : Int32)), .val (.int (0 : Int32)), .val (.int (0 : Int32))]) rfl ?_
      refine f_aload A200 at_153 (pc' := 155) rfl rfl rfl ?_
      refine f_callS A200 at_155 (pc' := 158) rfl (wd hw 29 rfl) (wd hw 30 rfl) (wd hw 31 rfl) (wd hw 32 rfl) (by decide) pd10 [(.ref b200)] [] rfl rfl rfl 0 (Nat.le_of_eq rfl) (CN.pay (W := 0) A200 (m_fam1 l Z a0 hw b200 t200 c0 zc O2 P5 0 h200 n0 A200.old G200 r0 (by simp [idxL, *])) (wd hw 32 rfl) (wd hw 31 rfl) (by decide) (by decide)) (kc := 0) (ks := 0) (by decide) (by decide) all0 (fun _ => sf0) fun v203 T203 h203 L203 A203 K203 q203 => ?_
      obtain ⟨rfl, hh203⟩ := q203
      obtain rfl := hh203.symm
      show Wp pG e below _ T203 (mkF m 158 _ [(.int (0 : Int32))])
      refine f_iload A203 at_158 (pc' := 160) rfl rfl ?_
      refine f_icN A203 at_160 (teq (by decide : (0 : Int32) = (0 : Int32))).2 (pc' := 163) rfl ?_
      refine f_iconst A203 at_163 (pc' := 164) rfl 1 rfl ?_
      refine f_goto A203 at_164 (pc' := 168) (by decide) (by decide) ?_
      exact f_retBW A203 hEL hlk hret at_168 (by decide) (1 : Int32) (by decide) (by decide) (by decide) Q201 rfl
  · refine f_iloadN A0 at_0 (pc' := 1) rfl rfl ?_
    refine f_bipush A0 at_1 (pc' := 3) rfl 7 rfl ?_
    refine f_iand A0 at_3 (pc' := 4) rfl (len &&& (7 : Int32)) rfl ?_
    refine f_bipush A0 at_4 (pc' := 6) rfl 6 rfl ?_
    refine f_irem A0 at_6 (pc' := 7) rfl (by decide) (2 : Int32) hk ?_
    refine f_istore A0 at_7 (pc' := 9) rfl (L' := #[.val (.int len), .val (.int x0), .val (.int x1), .val (.int x2), .val (.int x3), .val (.int x4), .val (.int (2 : Int32)), .unset, .unset, .unset, .unset, .unset, .unset, .unset, .unset, .unset]) rfl ?_
    refine f_iloadN A0 at_9 (pc' := 10) rfl rfl ?_
    refine f_callS A0 at_10 (pc' := 13) rfl (wd hw 0 rfl) (wd hw 1 rfl) (wd hw 2 rfl) (wd hw 3 rfl) (by decide) pd8 [(.int x0)] [] rfl rfl rfl 0 (Nat.le_of_eq rfl) (CN.pay (W := 0) A0 (m_pick l Z a0 hw x0 c0 h0 n0 A0.old hc0) (wd hw 3 rfl) (wd hw 2 rfl) (by decide) (by decide)) (kc := 0) (ks := 0) (by decide) (by decide) all0 (fun _ => sf0) fun v204 T204 h204 L204 A204 K204 q204 => ?_
    obtain ⟨rfl, hh204⟩ := q204
    obtain rfl := hh204.symm
    show Wp pG e below _ T204 (mkF m 13 _ [(.int c0)])
    refine f_istore A204 at_13 (pc' := 15) rfl (L' := #[.val (.int len), .val (.int x0), .val (.int x1), .val (.int x2), .val (.int x3), .val (.int x4), .val (.int (2 : Int32)), .val (.int c0), .unset, .unset, .unset, .unset, .unset, .unset, .unset, .unset]) rfl ?_
    refine f_iloadN A204 at_15 (pc' := 16) rfl rfl ?_
    refine f_callS A204 at_16 (pc' := 19) rfl (wd hw 0 rfl) (wd hw 1 rfl) (wd hw 2 rfl) (wd hw 3 rfl) (by decide) pd8 [(.int x1)] [] rfl rfl rfl 0 (Nat.le_of_eq rfl) (CN.pay (W := 0) A204 (m_pick l Z a0 hw x1 c1 h0 n0 A204.old hc1) (wd hw 3 rfl) (wd hw 2 rfl) (by decide) (by decide)) (kc := 0) (ks := 0) (by decide) (by decide) all0 (fun _ => sf0) fun v205 T205 h205 L205 A205 K205 q205 => ?_
    obtain ⟨rfl, hh205⟩ := q205
    obtain rfl := hh205.symm
    show Wp pG e below _ T205 (mkF m 19 _ [(.int c1)])
    refine f_istore A205 at_19 (pc' := 21) rfl (L' := #[.val (.int len), .val (.int x0), .val (.int x1), .val (.int x2), .val (.int x3), .val (.int x4), .val (.int (2 : Int32)), .val (.int c0), .val (.int c1), .unset, .unset, .unset, .unset, .unset, .unset, .unset]) rfl ?_
    refine f_iloadN A205 at_21 (pc' := 22) rfl rfl ?_
    refine f_callS A205 at_22 (pc' := 25) rfl (wd hw 0 rfl) (wd hw 1 rfl) (wd hw 2 rfl) (wd hw 3 rfl) (by decide) pd8 [(.int x2)] [] rfl rfl rfl 0 (Nat.le_of_eq rfl) (CN.pay (W := 0) A205 (m_pick l Z a0 hw x2 c2 h0 n0 A205.old hc2) (wd hw 3 rfl) (wd hw 2 rfl) (by decide) (by decide)) (kc := 0) (ks := 0) (by decide) (by decide) all0 (fun _ => sf0) fun v206 T206 h206 L206 A206 K206 q206 => ?_
    obtain ⟨rfl, hh206⟩ := q206
    obtain rfl := hh206.symm
    show Wp pG e below _ T206 (mkF m 25 _ [(.int c2)])
    refine f_istore A206 at_25 (pc' := 27) rfl (L' := #[.val (.int len), .val (.int x0), .val (.int x1), .val (.int x2), .val (.int x3), .val (.int x4), .val (.int (2 : Int32)), .val (.int c0), .val (.int c1), .val (.int c2), .unset, .unset, .unset, .unset, .unset, .unset]) rfl ?_
    refine f_iload A206 at_27 (pc' := 29) rfl rfl ?_
    refine f_callS A206 at_29 (pc' := 32) rfl (wd hw 0 rfl) (wd hw 1 rfl) (wd hw 2 rfl) (wd hw 3 rfl) (by decide) pd8 [(.int x3)] [] rfl rfl rfl 0 (Nat.le_of_eq rfl) (CN.pay (W := 0) A206 (m_pick l Z a0 hw x3 c3 h0 n0 A206.old hc3) (wd hw 3 rfl) (wd hw 2 rfl) (by decide) (by decide)) (kc := 0) (ks := 0) (by decide) (by decide) all0 (fun _ => sf0) fun v207 T207 h207 L207 A207 K207 q207 => ?_
    obtain ⟨rfl, hh207⟩ := q207
    obtain rfl := hh207.symm
    show Wp pG e below _ T207 (mkF m 32 _ [(.int c3)])
    refine f_istore A207 at_32 (pc' := 34) rfl (L' := #[.val (.int len), .val (.int x0), .val (.int x1), .val (.int x2), .val (.int x3), .val (.int x4), .val (.int (2 : Int32)), .val (.int c0), .val (.int c1), .val (.int c2), .val (.int c3), .unset, .unset, .unset, .unset, .unset]) rfl ?_
    refine f_iload A207 at_34 (pc' := 36) rfl rfl ?_
    refine f_callS A207 at_36 (pc' := 39) rfl (wd hw 0 rfl) (wd hw 1 rfl) (wd hw 2 rfl) (wd hw 3 rfl) (by decide) pd8 [(.int x4)] [] rfl rfl rfl 0 (Nat.le_of_eq rfl) (CN.pay (W := 0) A207 (m_pick l Z a0 hw x4 c4 h0 n0 A207.old hc4) (wd hw 3 rfl) (wd hw 2 rfl) (by decide) (by decide)) (kc := 0) (ks := 0) (by decide) (by decide) all0 (fun _ => sf0) fun v208 T208 h208 L208 A208 K208 q208 => ?_
    obtain ⟨rfl, hh208⟩ := q208
    obtain rfl := hh208.symm
    show Wp pG e below _ T208 (mkF m 39 _ [(.int c4)])
    refine f_istore A208 at_39 (pc' := 41) rfl (L' := #[.val (.int len), .val (.int x0), .val (.int x1), .val (.int x2), .val (.int x3), .val (.int x4), .val (.int (2 : Int32)), .val (.int c0), .val (.int c1), .val (.int c2), .val (.int c3), .val (.int c4), .unset, .unset, .unset, .unset]) rfl ?_
    refine f_iload A208 at_41 (pc' := 43) rfl rfl ?_
    refine f_iload A208 at_43 (pc' := 45) rfl rfl ?_
    refine f_iload A208 at_45 (pc' := 47) rfl rfl ?_
    refine f_iload A208 at_47 (pc' := 49) rfl rfl ?_
    refine f_iload A208 at_49 (pc' := 51) rfl rfl ?_
    refine f_iload A208 at_51 (pc' := 53) rfl rfl ?_
    refine f_callSW A208 at_53 (pc' := 56) rfl (wd hw 4 rfl) (wd hw 5 rfl) (wd hw 2 rfl) (wd hw 6 rfl) (by decide) pd9 [(.int (2 : Int32)), (.int c0), (.int c1), (.int c2), (.int c3), (.int c4)] [] rfl rfl rfl 0 (Nat.le_of_eq rfl) (CW.pay (W := 0) A208 hEL (m_make2 l Z a0 hw c0 c1 c2 c3 c4 zc O2 P5 h0 n0 A208.old hEL r0 r1 r2 r3 r4) (wd hw 6 rfl) (wd hw 2 rfl) (by decide) (by decide) (fun _ q => nomatch q)) (kc := 5) (ks := 20) (by decide) (by decide) all0 fun v209 vm209 T209 h209 L209 A209 K209 C209 q209 => ?_
    have Q210 : Keep h0 h209 [] := K0.trans K209 all0
    obtain ⟨b209, t209, rfl, bg209, G209⟩ := q209
    show Wp pG e below _ T209 (mkF m 56 _ [(.ref b209)])
    refine f_astore A209 at_56 (pc' := 58) rfl rfl (L' := #[.val (.int len), .val (.int x0), .val (.int x1), .val (.int x2), .val (.int x3), .val (.int x4), .val (.int (2 : Int32)), .val (.int c0), .val (.int c1), .val (.int c2), .val (.int c3), .val (.int c4), .val (.ref b209), .unset, .unset, .unset]) rfl ?_
    refine f_iload A209 at_58 (pc' := 60) rfl rfl ?_
    refine f_ifN A209 at_60 ((if0 _ _).trans (tlt (by decide : (0 : Int32) < (2 : Int32))).2.2.2) (pc' := 63) rfl ?_
    refine f_iload A209 at_63 (pc' := 65) rfl rfl ?_
    refine f_bipush A209 at_65 (pc' := 67) rfl 32 rfl ?_
    by_cases q0 : c0 = (32 : Int32)
    · refine f_icN A209 at_67 (teq q0).2 (pc' := 70) rfl ?_
      refine f_iconst A209 at_70 (pc' := 71) rfl 1 rfl ?_
      refine f_goto A209 at_71 (pc' := 75) (by decide) (by decide) ?_
      refine f_istore A209 at_75 (pc' := 77) rfl (L' := #[.val (.int len), .val (.int x0), .val (.int x1), .val (.int x2), .val (.int x3), .val (.int x4), .val (.int (2 : Int32)), .val (.int c0), .val (.int c1), .val (.int c2), .val (.int c3), .val (.int c4), .val (.ref b209), .val (.int (1 : Int32)), .unset, .unset]) rfl ?_
      refine f_iload A209 at_77 (pc' := 79) rfl rfl ?_
      refine f_iconst A209 at_79 (pc' := 80) rfl 1 rfl ?_
      refine f_icN A209 at_80 (tlt (by decide : (1 : Int32) < (2 : Int32))).2.2.2 (pc' := 83) rfl ?_
      refine f_iload A209 at_83 (pc' := 85) rfl rfl ?_
      refine f_bipush A209 at_85 (pc' := 87) rfl 32 rfl ?_
      by_cases q1 : c1 = (32 : Int32)
      · refine f_icY A209 at_87 (teq q1).1 (pc' := 129) (by decide) (by decide) ?_
        refine f_iconst A209 at_129 (pc' := 130) rfl 1 rfl ?_
        refine f_goto A209 at_130 (pc' := 134) (by decide) (by decide) ?_
        refine f_istore A209 at_134 (pc' := 136) rfl (L' := #[.val (.int len), .val (.int x0), .val (.int x1), .val (.int x2), .val (.int x3), .val (.int x4), .val (.int (2 : Int32)), .val (.int c0), .val (.int c1), .val (.int c2), .val (.int c3), .val (.int c4), .val (.ref b209), .val (.int (1 : Int32)), .val (.int (1 : Int32)), .unset]) rfl ?_
        refine f_iload A209 at_136 (pc' := 138) rfl rfl ?_
        refine f_ifY A209 at_138 ((if0 _ _).trans (feq (by decide : ¬ (1 : Int32) = (0 : Int32))).2) (pc' := 150) (by decide) (by decide) ?_
        refine f_iconst A209 at_150 (pc' := 151) rfl 0 rfl ?_
        refine f_istore A209 at_151 (pc' := 153) rfl (L' := #[.val (.int len), .val (.int x0), .val (.int x1), .val (.int x2), .val (.int x3), .val (.int x4), .val (.int (2 : Int32)), .val (.int c0), .val (.int c1), .val (.int c2), .val (.int c3), .val (.int c4), .val (.ref b209), .val (.int (1 : Int32)), .val (.int (1 : Int32)), .val (.int (0 : Int32))]) rfl ?_
        refine f_aload A209 at_153 (pc' := 155) rfl rfl rfl ?_
        refine f_callS A209 at_155 (pc' := 158) rfl (wd hw 29 rfl) (wd hw 30 rfl) (wd hw 31 rfl) (wd hw 32 rfl) (by decide) pd10 [(.ref b209)] [] rfl rfl rfl 0 (Nat.le_of_eq rfl) (CN.pay (W := 0) A209 (m_fam2 l Z a0 hw b209 t209 c0 c1 zc O2 P5 0 h209 n0 A209.old G209 r0 r1 (by simp [idxL, *])) (wd hw 32 rfl) (wd hw 31 rfl) (by decide) (by decide)) (kc := 0) (ks := 0) (by decide) (by decide) all0 (fun _ => sf0) fun v211 T211 h211 L211 A211 K211 q211 => ?_
        obtain ⟨rfl, hh211⟩ := q211
        obtain rfl := hh211.symm
        show Wp pG e below _ T211 (mkF m 158 _ [(.int (0 : Int32))])
        refine f_iload A211 at_158 (pc' := 160) rfl rfl ?_
        refine f_icN A211 at_160 (teq (by decide : (0 : Int32) = (0 : Int32))).2 (pc' := 163) rfl ?_
        refine f_iconst A211 at_163 (pc' := 164) rfl 1 rfl ?_
        refine f_goto A211 at_164 (pc' := 168) (by decide) (by decide) ?_
        exact f_retBW A211 hEL hlk hret at_168 (by decide) (1 : Int32) (by decide) (by decide) (by decide) Q210 rfl
      · refine f_icN A209 at_87 (feq q1).1 (pc' := 90) rfl ?_
        refine f_iload A209 at_90 (pc' := 92) rfl rfl ?_
        refine f_iconst A209 at_92 (pc' := 93) rfl 2 rfl ?_
        refine f_icY A209 at_93 (flt (by decide : ¬ (2 : Int32) < (2 : Int32))).2.2.2 (pc' := 103) (by decide) (by decide) ?_
        refine f_iload A209 at_103 (pc' := 105) rfl rfl ?_
        refine f_iconst A209 at_105 (pc' := 106) rfl 3 rfl ?_
        refine f_icY A209 at_106 (flt (by decide : ¬ (3 : Int32) < (2 : Int32))).2.2.2 (pc' := 116) (by decide) (by decide) ?_
        refine f_iload A209 at_116 (pc' := 118) rfl rfl ?_
        refine f_iconst A209 at_118 (pc' := 119) rfl 4 rfl ?_
        refine f_icY A209 at_119 (flt (by decide : ¬ (4 : Int32) < (2 : Int32))).2.2.2 (pc' := 133) (by decide) (by decide) ?_
        refine f_iconst A209 at_133 (pc' := 134) rfl 0 rfl ?_
        refine f_istore A209 at_134 (pc' := 136) rfl (L' := #[.val (.int len), .val (.int x0), .val (.int x1), .val (.int x2), .val (.int x3), .val (.int x4), .val (.int (2 : Int32)), .val (.int c0), .val (.int c1), .val (.int c2), .val (.int c3), .val (.int c4), .val (.ref b209), .val (.int (1 : Int32)), .val (.int (0 : Int32)), .unset]) rfl ?_
        refine f_iload A209 at_136 (pc' := 138) rfl rfl ?_
        refine f_ifY A209 at_138 ((if0 _ _).trans (feq (by decide : ¬ (1 : Int32) = (0 : Int32))).2) (pc' := 150) (by decide) (by decide) ?_
        refine f_iconst A209 at_150 (pc' := 151) rfl 0 rfl ?_
        refine f_istore A209 at_151 (pc' := 153) rfl (L' := #[.val (.int len), .val (.int x0), .val (.int x1), .val (.int x2), .val (.int x3), .val (.int x4), .val (.int (2 : Int32)), .val (.int c0), .val (.int c1), .val (.int c2), .val (.int c3), .val (.int c4), .val (.ref b209), .val (.int (1 : Int32)), .val (.int (0 : Int32)), .val (.int (0 : Int32))]) rfl ?_
        refine f_aload A209 at_153 (pc' := 155) rfl rfl rfl ?_
        refine f_callS A209 at_155 (pc' := 158) rfl (wd hw 29 rfl) (wd hw 30 rfl) (wd hw 31 rfl) (wd hw 32 rfl) (by decide) pd10 [(.ref b209)] [] rfl rfl rfl 0 (Nat.le_of_eq rfl) (CN.pay (W := 0) A209 (m_fam2 l Z a0 hw b209 t209 c0 c1 zc O2 P5 0 h209 n0 A209.old G209 r0 r1 (by simp [idxL, *])) (wd hw 32 rfl) (wd hw 31 rfl) (by decide) (by decide)) (kc := 0) (ks := 0) (by decide) (by decide) all0 (fun _ => sf0) fun v212 T212 h212 L212 A212 K212 q212 => ?_
        obtain ⟨rfl, hh212⟩ := q212
        obtain rfl := hh212.symm
        show Wp pG e below _ T212 (mkF m 158 _ [(.int (0 : Int32))])
        refine f_iload A212 at_158 (pc' := 160) rfl rfl ?_
        refine f_icN A212 at_160 (teq (by decide : (0 : Int32) = (0 : Int32))).2 (pc' := 163) rfl ?_
        refine f_iconst A212 at_163 (pc' := 164) rfl 1 rfl ?_
        refine f_goto A212 at_164 (pc' := 168) (by decide) (by decide) ?_
        exact f_retBW A212 hEL hlk hret at_168 (by decide) (1 : Int32) (by decide) (by decide) (by decide) Q210 rfl
    · refine f_icY A209 at_67 (feq q0).2 (pc' := 74) (by decide) (by decide) ?_
      refine f_iconst A209 at_74 (pc' := 75) rfl 0 rfl ?_
      refine f_istore A209 at_75 (pc' := 77) rfl (L' := #[.val (.int len), .val (.int x0), .val (.int x1), .val (.int x2), .val (.int x3), .val (.int x4), .val (.int (2 : Int32)), .val (.int c0), .val (.int c1), .val (.int c2), .val (.int c3), .val (.int c4), .val (.ref b209), .val (.int (0 : Int32)), .unset, .unset]) rfl ?_
      refine f_iload A209 at_77 (pc' := 79) rfl rfl ?_
      refine f_iconst A209 at_79 (pc' := 80) rfl 1 rfl ?_
      refine f_icN A209 at_80 (tlt (by decide : (1 : Int32) < (2 : Int32))).2.2.2 (pc' := 83) rfl ?_
      refine f_iload A209 at_83 (pc' := 85) rfl rfl ?_
      refine f_bipush A209 at_85 (pc' := 87) rfl 32 rfl ?_
      by_cases q1 : c1 = (32 : Int32)
      · refine f_icY A209 at_87 (teq q1).1 (pc' := 129) (by decide) (by decide) ?_
        refine f_iconst A209 at_129 (pc' := 130) rfl 1 rfl ?_
        refine f_goto A209 at_130 (pc' := 134) (by decide) (by decide) ?_
        refine f_istore A209 at_134 (pc' := 136) rfl (L' := #[.val (.int len), .val (.int x0), .val (.int x1), .val (.int x2), .val (.int x3), .val (.int x4), .val (.int (2 : Int32)), .val (.int c0), .val (.int c1), .val (.int c2), .val (.int c3), .val (.int c4), .val (.ref b209), .val (.int (0 : Int32)), .val (.int (1 : Int32)), .unset]) rfl ?_
        refine f_iload A209 at_136 (pc' := 138) rfl rfl ?_
        refine f_ifN A209 at_138 ((if0 _ _).trans (teq (by decide : (0 : Int32) = (0 : Int32))).2) (pc' := 141) rfl ?_
        refine f_iload A209 at_141 (pc' := 143) rfl rfl ?_
        refine f_ifN A209 at_143 ((if0 _ _).trans (feq (by decide : ¬ (1 : Int32) = (0 : Int32))).1) (pc' := 146) rfl ?_
        refine f_iconst A209 at_146 (pc' := 147) rfl 1 rfl ?_
        refine f_goto A209 at_147 (pc' := 151) (by decide) (by decide) ?_
        refine f_istore A209 at_151 (pc' := 153) rfl (L' := #[.val (.int len), .val (.int x0), .val (.int x1), .val (.int x2), .val (.int x3), .val (.int x4), .val (.int (2 : Int32)), .val (.int c0), .val (.int c1), .val (.int c2), .val (.int c3), .val (.int c4), .val (.ref b209), .val (.int (0 : Int32)), .val (.int (1 : Int32)), .val (.int (1 : Int32))]) rfl ?_
        refine f_aload A209 at_153 (pc' := 155) rfl rfl rfl ?_
        refine f_callS A209 at_155 (pc' := 158) rfl (wd hw 29 rfl) (wd hw 30 rfl) (wd hw 31 rfl) (wd hw 32 rfl) (by decide) pd10 [(.ref b209)] [] rfl rfl rfl 0 (Nat.le_of_eq rfl) (CN.pay (W := 0) A209 (m_fam2 l Z a0 hw b209 t209 c0 c1 zc O2 P5 1 h209 n0 A209.old G209 r0 r1 (by simp [idxL, *])) (wd hw 32 rfl) (wd hw 31 rfl) (by decide) (by decide)) (kc := 0) (ks := 0) (by decide) (by decide) all0 (fun _ => sf0) fun v213 T213 h213 L213 A213 K213 q213 => ?_
        obtain ⟨rfl, hh213⟩ := q213
        obtain rfl := hh213.symm
        show Wp pG e below _ T213 (mkF m 158 _ [(.int (1 : Int32))])
        refine f_iload A213 at_158 (pc' := 160) rfl rfl ?_
        refine f_icN A213 at_160 (teq (by decide : (1 : Int32) = (1 : Int32))).2 (pc' := 163) rfl ?_
        refine f_iconst A213 at_163 (pc' := 164) rfl 1 rfl ?_
        refine f_goto A213 at_164 (pc' := 168) (by decide) (by decide) ?_
        exact f_retBW A213 hEL hlk hret at_168 (by decide) (1 : Int32) (by decide) (by decide) (by decide) Q210 rfl
      · refine f_icN A209 at_87 (feq q1).1 (pc' := 90) rfl ?_
        refine f_iload A209 at_90 (pc' := 92) rfl rfl ?_
        refine f_iconst A209 at_92 (pc' := 93) rfl 2 rfl ?_
        refine f_icY A209 at_93 (flt (by decide : ¬ (2 : Int32) < (2 : Int32))).2.2.2 (pc' := 103) (by decide) (by decide) ?_
        refine f_iload A209 at_103 (pc' := 105) rfl rfl ?_
        refine f_iconst A209 at_105 (pc' := 106) rfl 3 rfl ?_
        refine f_icY A209 at_106 (flt (by decide : ¬ (3 : Int32) < (2 : Int32))).2.2.2 (pc' := 116) (by decide) (by decide) ?_
        refine f_iload A209 at_116 (pc' := 118) rfl rfl ?_
        refine f_iconst A209 at_118 (pc' := 119) rfl 4 rfl ?_
        refine f_icY A209 at_119 (flt (by decide : ¬ (4 : Int32) < (2 : Int32))).2.2.2 (pc' := 133) (by decide) (by decide) ?_
        refine f_iconst A209 at_133 (pc' := 134) rfl 0 rfl ?_
        refine f_istore A209 at_134 (pc' := 136) rfl (L' := #[.val (.int len), .val (.int x0), .val (.int x1), .val (.int x2), .val (.int x3), .val (.int x4), .val (.int (2 : Int32)), .val (.int c0), .val (.int c1), .val (.int c2), .val (.int c3), .val (.int c4), .val (.ref b209), .val (.int (0 : Int32)), .val (.int (0 : Int32)), .unset]) rfl ?_
        refine f_iload A209 at_136 (pc' := 138) rfl rfl ?_
        refine f_ifN A209 at_138 ((if0 _ _).trans (teq (by decide : (0 : Int32) = (0 : Int32))).2) (pc' := 141) rfl ?_
        refine f_iload A209 at_141 (pc' := 143) rfl rfl ?_
        refine f_ifY A209 at_143 ((if0 _ _).trans (teq (by decide : (0 : Int32) = (0 : Int32))).1) (pc' := 150) (by decide) (by decide) ?_
        refine f_iconst A209 at_150 (pc' := 151) rfl 0 rfl ?_
        refine f_istore A209 at_151 (pc' := 153) rfl (L' := #[.val (.int len), .val (.int x0), .val (.int x1), .val (.int x2), .val (.int x3), .val (.int x4), .val (.int (2 : Int32)), .val (.int c0), .val (.int c1), .val (.int c2), .val (.int c3), .val (.int c4), .val (.ref b209), .val (.int (0 : Int32)), .val (.int (0 : Int32)), .val (.int (0 : Int32))]) rfl ?_
        refine f_aload A209 at_153 (pc' := 155) rfl rfl rfl ?_
        refine f_callS A209 at_155 (pc' := 158) rfl (wd hw 29 rfl) (wd hw 30 rfl) (wd hw 31 rfl) (wd hw 32 rfl) (by decide) pd10 [(.ref b209)] [] rfl rfl rfl 0 (Nat.le_of_eq rfl) (CN.pay (W := 0) A209 (m_fam2 l Z a0 hw b209 t209 c0 c1 zc O2 P5 0 h209 n0 A209.old G209 r0 r1 (by simp [idxL, *])) (wd hw 32 rfl) (wd hw 31 rfl) (by decide) (by decide)) (kc := 0) (ks := 0) (by decide) (by decide) all0 (fun _ => sf0) fun v214 T214 h214 L214 A214 K214 q214 => ?_
        obtain ⟨rfl, hh214⟩ := q214
        obtain rfl := hh214.symm
        show Wp pG e below _ T214 (mkF m 158 _ [(.int (0 : Int32))])
        refine f_iload A214 at_158 (pc' := 160) rfl rfl ?_
        refine f_icN A214 at_160 (teq (by decide : (0 : Int32) = (0 : Int32))).2 (pc' := 163) rfl ?_
        refine f_iconst A214 at_163 (pc' := 164) rfl 1 rfl ?_
        refine f_goto A214 at_164 (pc' := 168) (by decide) (by decide) ?_
        exact f_retBW A214 hEL hlk hret at_168 (by decide) (1 : Int32) (by decide) (by decide) (by decide) Q210 rfl
  · refine f_iloadN A0 at_0 (pc' := 1) rfl rfl ?_
    refine f_bipush A0 at_1 (pc' := 3) rfl 7 rfl ?_
    refine f_iand A0 at_3 (pc' := 4) rfl (len &&& (7 : Int32)) rfl ?_
    refine f_bipush A0 at_4 (pc' := 6) rfl 6 rfl ?_
    refine f_irem A0 at_6 (pc' := 7) rfl (by decide) (3 : Int32) hk ?_
    refine f_istore A0 at_7 (pc' := 9) rfl (L' := #[.val (.int len), .val (.int x0), .val (.int x1), .val (.int x2), .val (.int x3), .val (.int x4), .val (.int (3 : Int32)), .unset, .unset, .unset, .unset, .unset, .unset, .unset, .unset, .unset]) rfl ?_
    refine f_iloadN A0 at_9 (pc' := 10) rfl rfl ?_
    refine f_callS A0 at_10 (pc' := 13) rfl (wd hw 0 rfl) (wd hw 1 rfl) (wd hw 2 rfl) (wd hw 3 rfl) (by decide) pd8 [(.int x0)] [] rfl rfl rfl 0 (Nat.le_of_eq rfl) (CN.pay (W := 0) A0 (m_pick l Z a0 hw x0 c0 h0 n0 A0.old hc0) (wd hw 3 rfl) (wd hw 2 rfl) (by decide) (by decide)) (kc := 0) (ks := 0) (by decide) (by decide) all0 (fun _ => sf0) fun v215 T215 h215 L215 A215 K215 q215 => ?_
    obtain ⟨rfl, hh215⟩ := q215
    obtain rfl := hh215.symm
    show Wp pG e below _ T215 (mkF m 13 _ [(.int c0)])
    refine f_istore A215 at_13 (pc' := 15) rfl (L' := #[.val (.int len), .val (.int x0), .val (.int x1), .val (.int x2), .val (.int x3), .val (.int x4), .val (.int (3 : Int32)), .val (.int c0), .unset, .unset, .unset, .unset, .unset, .unset, .unset, .unset]) rfl ?_
    refine f_iloadN A215 at_15 (pc' := 16) rfl rfl ?_
    refine f_callS A215 at_16 (pc' := 19) rfl (wd hw 0 rfl) (wd hw 1 rfl) (wd hw 2 rfl) (wd hw 3 rfl) (by decide) pd8 [(.int x1)] [] rfl rfl rfl 0 (Nat.le_of_eq rfl) (CN.pay (W := 0) A215 (m_pick l Z a0 hw x1 c1 h0 n0 A215.old hc1) (wd hw 3 rfl) (wd hw 2 rfl) (by decide) (by decide)) (kc := 0) (ks := 0) (by decide) (by decide) all0 (fun _ => sf0) fun v216 T216 h216 L216 A216 K216 q216 => ?_
    obtain ⟨rfl, hh216⟩ := q216
    obtain rfl := hh216.symm
    show Wp pG e below _ T216 (mkF m 19 _ [(.int c1)])
    refine f_istore A216 at_19 (pc' := 21) rfl (L' := #[.val (.int len), .val (.int x0), .val (.int x1), .val (.int x2), .val (.int x3), .val (.int x4), .val (.int (3 : Int32)), .val (.int c0), .val (.int c1), .unset, .unset, .unset, .unset, .unset, .unset, .unset]) rfl ?_
    refine f_iloadN A216 at_21 (pc' := 22) rfl rfl ?_
    refine f_callS A216 at_22 (pc' := 25) rfl (wd hw 0 rfl) (wd hw 1 rfl) (wd hw 2 rfl) (wd hw 3 rfl) (by decide) pd8 [(.int x2)] [] rfl rfl rfl 0 (Nat.le_of_eq rfl) (CN.pay (W := 0) A216 (m_pick l Z a0 hw x2 c2 h0 n0 A216.old hc2) (wd hw 3 rfl) (wd hw 2 rfl) (by decide) (by decide)) (kc := 0) (ks := 0) (by decide) (by decide) all0 (fun _ => sf0) fun v217 T217 h217 L217 A217 K217 q217 => ?_
    obtain ⟨rfl, hh217⟩ := q217
    obtain rfl := hh217.symm
    show Wp pG e below _ T217 (mkF m 25 _ [(.int c2)])
    refine f_istore A217 at_25 (pc' := 27) rfl (L' := #[.val (.int len), .val (.int x0), .val (.int x1), .val (.int x2), .val (.int x3), .val (.int x4), .val (.int (3 : Int32)), .val (.int c0), .val (.int c1), .val (.int c2), .unset, .unset, .unset, .unset, .unset, .unset]) rfl ?_
    refine f_iload A217 at_27 (pc' := 29) rfl rfl ?_
    refine f_callS A217 at_29 (pc' := 32) rfl (wd hw 0 rfl) (wd hw 1 rfl) (wd hw 2 rfl) (wd hw 3 rfl) (by decide) pd8 [(.int x3)] [] rfl rfl rfl 0 (Nat.le_of_eq rfl) (CN.pay (W := 0) A217 (m_pick l Z a0 hw x3 c3 h0 n0 A217.old hc3) (wd hw 3 rfl) (wd hw 2 rfl) (by decide) (by decide)) (kc := 0) (ks := 0) (by decide) (by decide) all0 (fun _ => sf0) fun v218 T218 h218 L218 A218 K218 q218 => ?_
    obtain ⟨rfl, hh218⟩ := q218
    obtain rfl := hh218.symm
    show Wp pG e below _ T218 (mkF m 32 _ [(.int c3)])
    refine f_istore A218 at_32 (pc' := 34) rfl (L' := #[.val (.int len), .val (.int x0), .val (.int x1), .val (.int x2), .val (.int x3), .val (.int x4), .val (.int (3 : Int32)), .val (.int c0), .val (.int c1), .val (.int c2), .val (.int c3), .unset, .unset, .unset, .unset, .unset]) rfl ?_
    refine f_iload A218 at_34 (pc' := 36) rfl rfl ?_
    refine f_callS A218 at_36 (pc' := 39) rfl (wd hw 0 rfl) (wd hw 1 rfl) (wd hw 2 rfl) (wd hw 3 rfl) (by decide) pd8 [(.int x4)] [] rfl rfl rfl 0 (Nat.le_of_eq rfl) (CN.pay (W := 0) A218 (m_pick l Z a0 hw x4 c4 h0 n0 A218.old hc4) (wd hw 3 rfl) (wd hw 2 rfl) (by decide) (by decide)) (kc := 0) (ks := 0) (by decide) (by decide) all0 (fun _ => sf0) fun v219 T219 h219 L219 A219 K219 q219 => ?_
    obtain ⟨rfl, hh219⟩ := q219
    obtain rfl := hh219.symm
    show Wp pG e below _ T219 (mkF m 39 _ [(.int c4)])
    refine f_istore A219 at_39 (pc' := 41) rfl (L' := #[.val (.int len), .val (.int x0), .val (.int x1), .val (.int x2), .val (.int x3), .val (.int x4), .val (.int (3 : Int32)), .val (.int c0), .val (.int c1), .val (.int c2), .val (.int c3), .val (.int c4), .unset, .unset, .unset, .unset]) rfl ?_
    refine f_iload A219 at_41 (pc' := 43) rfl rfl ?_
    refine f_iload A219 at_43 (pc' := 45) rfl rfl ?_
    refine f_iload A219 at_45 (pc' := 47) rfl rfl ?_
    refine f_iload A219 at_47 (pc' := 49) rfl rfl ?_
    refine f_iload A219 at_49 (pc' := 51) rfl rfl ?_
    refine f_iload A219 at_51 (pc' := 53) rfl rfl ?_
    refine f_callSW A219 at_53 (pc' := 56) rfl (wd hw 4 rfl) (wd hw 5 rfl) (wd hw 2 rfl) (wd hw 6 rfl) (by decide) pd9 [(.int (3 : Int32)), (.int c0), (.int c1), (.int c2), (.int c3), (.int c4)] [] rfl rfl rfl 0 (Nat.le_of_eq rfl) (CW.pay (W := 0) A219 hEL (m_make3 l Z a0 hw c0 c1 c2 c3 c4 zc O2 P5 h0 n0 A219.old hEL r0 r1 r2 r3 r4) (wd hw 6 rfl) (wd hw 2 rfl) (by decide) (by decide) (fun _ q => nomatch q)) (kc := 5) (ks := 20) (by decide) (by decide) all0 fun v220 vm220 T220 h220 L220 A220 K220 C220 q220 => ?_
    have Q221 : Keep h0 h220 [] := K0.trans K220 all0
    obtain ⟨b220, t220, rfl, bg220, G220⟩ := q220
    show Wp pG e below _ T220 (mkF m 56 _ [(.ref b220)])
    refine f_astore A220 at_56 (pc' := 58) rfl rfl (L' := #[.val (.int len), .val (.int x0), .val (.int x1), .val (.int x2), .val (.int x3), .val (.int x4), .val (.int (3 : Int32)), .val (.int c0), .val (.int c1), .val (.int c2), .val (.int c3), .val (.int c4), .val (.ref b220), .unset, .unset, .unset]) rfl ?_
    refine f_iload A220 at_58 (pc' := 60) rfl rfl ?_
    refine f_ifN A220 at_60 ((if0 _ _).trans (tlt (by decide : (0 : Int32) < (3 : Int32))).2.2.2) (pc' := 63) rfl ?_
    refine f_iload A220 at_63 (pc' := 65) rfl rfl ?_
    refine f_bipush A220 at_65 (pc' := 67) rfl 32 rfl ?_
    by_cases q0 : c0 = (32 : Int32)
    · refine f_icN A220 at_67 (teq q0).2 (pc' := 70) rfl ?_
      refine f_iconst A220 at_70 (pc' := 71) rfl 1 rfl ?_
      refine f_goto A220 at_71 (pc' := 75) (by decide) (by decide) ?_
      refine f_istore A220 at_75 (pc' := 77) rfl (L' := #[.val (.int len), .val (.int x0), .val (.int x1), .val (.int x2), .val (.int x3), .val (.int x4), .val (.int (3 : Int32)), .val (.int c0), .val (.int c1), .val (.int c2), .val (.int c3), .val (.int c4), .val (.ref b220), .val (.int (1 : Int32)), .unset, .unset]) rfl ?_
      refine f_iload A220 at_77 (pc' := 79) rfl rfl ?_
      refine f_iconst A220 at_79 (pc' := 80) rfl 1 rfl ?_
      refine f_icN A220 at_80 (tlt (by decide : (1 : Int32) < (3 : Int32))).2.2.2 (pc' := 83) rfl ?_
      refine f_iload A220 at_83 (pc' := 85) rfl rfl ?_
      refine f_bipush A220 at_85 (pc' := 87) rfl 32 rfl ?_
      by_cases q1 : c1 = (32 : Int32)
      · refine f_icY A220 at_87 (teq q1).1 (pc' := 129) (by decide) (by decide) ?_
        refine f_iconst A220 at_129 (pc' := 130) rfl 1 rfl ?_
        refine f_goto A220 at_130 (pc' := 134) (by decide) (by decide) ?_
        refine f_istore A220 at_134 (pc' := 136) rfl (L' := #[.val (.int len), .val (.int x0), .val (.int x1), .val (.int x2), .val (.int x3), .val (.int x4), .val (.int (3 : Int32)), .val (.int c0), .val (.int c1), .val (.int c2), .val (.int c3), .val (.int c4), .val (.ref b220), .val (.int (1 : Int32)), .val (.int (1 : Int32)), .unset]) rfl ?_
        refine f_iload A220 at_136 (pc' := 138) rfl rfl ?_
        refine f_ifY A220 at_138 ((if0 _ _).trans (feq (by decide : ¬ (1 : Int32) = (0 : Int32))).2) (pc' := 150) (by decide) (by decide) ?_
        refine f_iconst A220 at_150 (pc' := 151) rfl 0 rfl ?_
        refine f_istore A220 at_151 (pc' := 153) rfl (L' := #[.val (.int len), .val (.int x0), .val (.int x1), .val (.int x2), .val (.int x3), .val (.int x4), .val (.int (3 : Int32)), .val (.int c0), .val (.int c1), .val (.int c2), .val (.int c3), .val (.int c4), .val (.ref b220), .val (.int (1 : Int32)), .val (.int (1 : Int32)), .val (.int (0 : Int32))]) rfl ?_
        refine f_aload A220 at_153 (pc' := 155) rfl rfl rfl ?_
        refine f_callS A220 at_155 (pc' := 158) rfl (wd hw 29 rfl) (wd hw 30 rfl) (wd hw 31 rfl) (wd hw 32 rfl) (by decide) pd10 [(.ref b220)] [] rfl rfl rfl 0 (Nat.le_of_eq rfl) (CN.pay (W := 0) A220 (m_fam3 l Z a0 hw b220 t220 c0 c1 c2 zc O2 P5 0 h220 n0 A220.old G220 r0 r1 r2 (by simp [idxL, *])) (wd hw 32 rfl) (wd hw 31 rfl) (by decide) (by decide)) (kc := 0) (ks := 0) (by decide) (by decide) all0 (fun _ => sf0) fun v222 T222 h222 L222 A222 K222 q222 => ?_
        obtain ⟨rfl, hh222⟩ := q222
        obtain rfl := hh222.symm
        show Wp pG e below _ T222 (mkF m 158 _ [(.int (0 : Int32))])
        refine f_iload A222 at_158 (pc' := 160) rfl rfl ?_
        refine f_icN A222 at_160 (teq (by decide : (0 : Int32) = (0 : Int32))).2 (pc' := 163) rfl ?_
        refine f_iconst A222 at_163 (pc' := 164) rfl 1 rfl ?_
        refine f_goto A222 at_164 (pc' := 168) (by decide) (by decide) ?_
        exact f_retBW A222 hEL hlk hret at_168 (by decide) (1 : Int32) (by decide) (by decide) (by decide) Q221 rfl
      · refine f_icN A220 at_87 (feq q1).1 (pc' := 90) rfl ?_
        refine f_iload A220 at_90 (pc' := 92) rfl rfl ?_
        refine f_iconst A220 at_92 (pc' := 93) rfl 2 rfl ?_
        refine f_icN A220 at_93 (tlt (by decide : (2 : Int32) < (3 : Int32))).2.2.2 (pc' := 96) rfl ?_
        refine f_iload A220 at_96 (pc' := 98) rfl rfl ?_
        refine f_bipush A220 at_98 (pc' := 100) rfl 32 rfl ?_
        by_cases q2 : c2 = (32 : Int32)
        · refine f_icY A220 at_100 (teq q2).1 (pc' := 129) (by decide) (by decide) ?_
          refine f_iconst A220 at_129 (pc' := 130) rfl 1 rfl ?_
          refine f_goto A220 at_130 (pc' := 134) (by decide) (by decide) ?_
          refine f_istore A220 at_134 (pc' := 136) rfl (L' := #[.val (.int len), .val (.int x0), .val (.int x1), .val (.int x2), .val (.int x3), .val (.int x4), .val (.int (3 : Int32)), .val (.int c0), .val (.int c1), .val (.int c2), .val (.int c3), .val (.int c4), .val (.ref b220), .val (.int (1 : Int32)), .val (.int (1 : Int32)), .unset]) rfl ?_
          refine f_iload A220 at_136 (pc' := 138) rfl rfl ?_
          refine f_ifY A220 at_138 ((if0 _ _).trans (feq (by decide : ¬ (1 : Int32) = (0 : Int32))).2) (pc' := 150) (by decide) (by decide) ?_
          refine f_iconst A220 at_150 (pc' := 151) rfl 0 rfl ?_
          refine f_istore A220 at_151 (pc' := 153) rfl (L' := #[.val (.int len), .val (.int x0), .val (.int x1), .val (.int x2), .val (.int x3), .val (.int x4), .val (.int (3 : Int32)), .val (.int c0), .val (.int c1), .val (.int c2), .val (.int c3), .val (.int c4), .val (.ref b220), .val (.int (1 : Int32)), .val (.int (1 : Int32)), .val (.int (0 : Int32))]) rfl ?_
          refine f_aload A220 at_153 (pc' := 155) rfl rfl rfl ?_
          refine f_callS A220 at_155 (pc' := 158) rfl (wd hw 29 rfl) (wd hw 30 rfl) (wd hw 31 rfl) (wd hw 32 rfl) (by decide) pd10 [(.ref b220)] [] rfl rfl rfl 0 (Nat.le_of_eq rfl) (CN.pay (W := 0) A220 (m_fam3 l Z a0 hw b220 t220 c0 c1 c2 zc O2 P5 0 h220 n0 A220.old G220 r0 r1 r2 (by simp [idxL, *])) (wd hw 32 rfl) (wd hw 31 rfl) (by decide) (by decide)) (kc := 0) (ks := 0) (by decide) (by decide) all0 (fun _ => sf0) fun v223 T223 h223 L223 A223 K223 q223 => ?_
          obtain ⟨rfl, hh223⟩ := q223
          obtain rfl := hh223.symm
          show Wp pG e below _ T223 (mkF m 158 _ [(.int (0 : Int32))])
          refine f_iload A223 at_158 (pc' := 160) rfl rfl ?_
          refine f_icN A223 at_160 (teq (by decide : (0 : Int32) = (0 : Int32))).2 (pc' := 163) rfl ?_
          refine f_iconst A223 at_163 (pc' := 164) rfl 1 rfl ?_
          refine f_goto A223 at_164 (pc' := 168) (by decide) (by decide) ?_
          exact f_retBW A223 hEL hlk hret at_168 (by decide) (1 : Int32) (by decide) (by decide) (by decide) Q221 rfl
        · refine f_icN A220 at_100 (feq q2).1 (pc' := 103) rfl ?_
          refine f_iload A220 at_103 (pc' := 105) rfl rfl ?_
          refine f_iconst A220 at_105 (pc' := 106) rfl 3 rfl ?_
          refine f_icY A220 at_106 (flt (by decide : ¬ (3 : Int32) < (3 : Int32))).2.2.2 (pc' := 116) (by decide) (by decide) ?_
          refine f_iload A220 at_116 (pc' := 118) rfl rfl ?_
          refine f_iconst A220 at_118 (pc' := 119) rfl 4 rfl ?_
          refine f_icY A220 at_119 (flt (by decide : ¬ (4 : Int32) < (3 : Int32))).2.2.2 (pc' := 133) (by decide) (by decide) ?_
          refine f_iconst A220 at_133 (pc' := 134) rfl 0 rfl ?_
          refine f_istore A220 at_134 (pc' := 136) rfl (L' := #[.val (.int len), .val (.int x0), .val (.int x1), .val (.int x2), .val (.int x3), .val (.int x4), .val (.int (3 : Int32)), .val (.int c0), .val (.int c1), .val (.int c2), .val (.int c3), .val (.int c4), .val (.ref b220), .val (.int (1 : Int32)), .val (.int (0 : Int32)), .unset]) rfl ?_
          refine f_iload A220 at_136 (pc' := 138) rfl rfl ?_
          refine f_ifY A220 at_138 ((if0 _ _).trans (feq (by decide : ¬ (1 : Int32) = (0 : Int32))).2) (pc' := 150) (by decide) (by decide) ?_
          refine f_iconst A220 at_150 (pc' := 151) rfl 0 rfl ?_
          refine f_istore A220 at_151 (pc' := 153) rfl (L' := #[.val (.int len), .val (.int x0), .val (.int x1), .val (.int x2), .val (.int x3), .val (.int x4), .val (.int (3 : Int32)), .val (.int c0), .val (.int c1), .val (.int c2), .val (.int c3), .val (.int c4), .val (.ref b220), .val (.int (1 : Int32)), .val (.int (0 : Int32)), .val (.int (0 : Int32))]) rfl ?_
          refine f_aload A220 at_153 (pc' := 155) rfl rfl rfl ?_
          refine f_callS A220 at_155 (pc' := 158) rfl (wd hw 29 rfl) (wd hw 30 rfl) (wd hw 31 rfl) (wd hw 32 rfl) (by decide) pd10 [(.ref b220)] [] rfl rfl rfl 0 (Nat.le_of_eq rfl) (CN.pay (W := 0) A220 (m_fam3 l Z a0 hw b220 t220 c0 c1 c2 zc O2 P5 0 h220 n0 A220.old G220 r0 r1 r2 (by simp [idxL, *])) (wd hw 32 rfl) (wd hw 31 rfl) (by decide) (by decide)) (kc := 0) (ks := 0) (by decide) (by decide) all0 (fun _ => sf0) fun v224 T224 h224 L224 A224 K224 q224 => ?_
          obtain ⟨rfl, hh224⟩ := q224
          obtain rfl := hh224.symm
          show Wp pG e below _ T224 (mkF m 158 _ [(.int (0 : Int32))])
          refine f_iload A224 at_158 (pc' := 160) rfl rfl ?_
          refine f_icN A224 at_160 (teq (by decide : (0 : Int32) = (0 : Int32))).2 (pc' := 163) rfl ?_
          refine f_iconst A224 at_163 (pc' := 164) rfl 1 rfl ?_
          refine f_goto A224 at_164 (pc' := 168) (by decide) (by decide) ?_
          exact f_retBW A224 hEL hlk hret at_168 (by decide) (1 : Int32) (by decide) (by decide) (by decide) Q221 rfl
    · refine f_icY A220 at_67 (feq q0).2 (pc' := 74) (by decide) (by decide) ?_
      refine f_iconst A220 at_74 (pc' := 75) rfl 0 rfl ?_
      refine f_istore A220 at_75 (pc' := 77) rfl (L' := #[.val (.int len), .val (.int x0), .val (.int x1), .val (.int x2), .val (.int x3), .val (.int x4), .val (.int (3 : Int32)), .val (.int c0), .val (.int c1), .val (.int c2), .val (.int c3), .val (.int c4), .val (.ref b220), .val (.int (0 : Int32)), .unset, .unset]) rfl ?_
      refine f_iload A220 at_77 (pc' := 79) rfl rfl ?_
      refine f_iconst A220 at_79 (pc' := 80) rfl 1 rfl ?_
      refine f_icN A220 at_80 (tlt (by decide : (1 : Int32) < (3 : Int32))).2.2.2 (pc' := 83) rfl ?_
      refine f_iload A220 at_83 (pc' := 85) rfl rfl ?_
      refine f_bipush A220 at_85 (pc' := 87) rfl 32 rfl ?_
      by_cases q1 : c1 = (32 : Int32)
      · refine f_icY A220 at_87 (teq q1).1 (pc' := 129) (by decide) (by decide) ?_
        refine f_iconst A220 at_129 (pc' := 130) rfl 1 rfl ?_
        refine f_goto A220 at_130 (pc' := 134) (by decide) (by decide) ?_
        refine f_istore A220 at_134 (pc' := 136) rfl (L' := #[.val (.int len), .val (.int x0), .val (.int x1), .val (.int x2), .val (.int x3), .val (.int x4), .val (.int (3 : Int32)), .val (.int c0), .val (.int c1), .val (.int c2), .val (.int c3), .val (.int c4), .val (.ref b220), .val (.int (0 : Int32)), .val (.int (1 : Int32)), .unset]) rfl ?_
        refine f_iload A220 at_136 (pc' := 138) rfl rfl ?_
        refine f_ifN A220 at_138 ((if0 _ _).trans (teq (by decide : (0 : Int32) = (0 : Int32))).2) (pc' := 141) rfl ?_
        refine f_iload A220 at_141 (pc' := 143) rfl rfl ?_
        refine f_ifN A220 at_143 ((if0 _ _).trans (feq (by decide : ¬ (1 : Int32) = (0 : Int32))).1) (pc' := 146) rfl ?_
        refine f_iconst A220 at_146 (pc' := 147) rfl 1 rfl ?_
        refine f_goto A220 at_147 (pc' := 151) (by decide) (by decide) ?_
        refine f_istore A220 at_151 (pc' := 153) rfl (L' := #[.val (.int len), .val (.int x0), .val (.int x1), .val (.int x2), .val (.int x3), .val (.int x4), .val (.int (3 : Int32)), .val (.int c0), .val (.int c1), .val (.int c2), .val (.int c3), .val (.int c4), .val (.ref b220), .val (.int (0 : Int32)), .val (.int (1 : Int32)), .val (.int (1 : Int32))]) rfl ?_
        refine f_aload A220 at_153 (pc' := 155) rfl rfl rfl ?_
        refine f_callS A220 at_155 (pc' := 158) rfl (wd hw 29 rfl) (wd hw 30 rfl) (wd hw 31 rfl) (wd hw 32 rfl) (by decide) pd10 [(.ref b220)] [] rfl rfl rfl 0 (Nat.le_of_eq rfl) (CN.pay (W := 0) A220 (m_fam3 l Z a0 hw b220 t220 c0 c1 c2 zc O2 P5 1 h220 n0 A220.old G220 r0 r1 r2 (by simp [idxL, *])) (wd hw 32 rfl) (wd hw 31 rfl) (by decide) (by decide)) (kc := 0) (ks := 0) (by decide) (by decide) all0 (fun _ => sf0) fun v225 T225 h225 L225 A225 K225 q225 => ?_
        obtain ⟨rfl, hh225⟩ := q225
        obtain rfl := hh225.symm
        show Wp pG e below _ T225 (mkF m 158 _ [(.int (1 : Int32))])
        refine f_iload A225 at_158 (pc' := 160) rfl rfl ?_
        refine f_icN A225 at_160 (teq (by decide : (1 : Int32) = (1 : Int32))).2 (pc' := 163) rfl ?_
        refine f_iconst A225 at_163 (pc' := 164) rfl 1 rfl ?_
        refine f_goto A225 at_164 (pc' := 168) (by decide) (by decide) ?_
        exact f_retBW A225 hEL hlk hret at_168 (by decide) (1 : Int32) (by decide) (by decide) (by decide) Q221 rfl
      · refine f_icN A220 at_87 (feq q1).1 (pc' := 90) rfl ?_
        refine f_iload A220 at_90 (pc' := 92) rfl rfl ?_
        refine f_iconst A220 at_92 (pc' := 93) rfl 2 rfl ?_
        refine f_icN A220 at_93 (tlt (by decide : (2 : Int32) < (3 : Int32))).2.2.2 (pc' := 96) rfl ?_
        refine f_iload A220 at_96 (pc' := 98) rfl rfl ?_
        refine f_bipush A220 at_98 (pc' := 100) rfl 32 rfl ?_
        by_cases q2 : c2 = (32 : Int32)
        · refine f_icY A220 at_100 (teq q2).1 (pc' := 129) (by decide) (by decide) ?_
          refine f_iconst A220 at_129 (pc' := 130) rfl 1 rfl ?_
          refine f_goto A220 at_130 (pc' := 134) (by decide) (by decide) ?_
          refine f_istore A220 at_134 (pc' := 136) rfl (L' := #[.val (.int len), .val (.int x0), .val (.int x1), .val (.int x2), .val (.int x3), .val (.int x4), .val (.int (3 : Int32)), .val (.int c0), .val (.int c1), .val (.int c2), .val (.int c3), .val (.int c4), .val (.ref b220), .val (.int (0 : Int32)), .val (.int (1 : Int32)), .unset]) rfl ?_
          refine f_iload A220 at_136 (pc' := 138) rfl rfl ?_
          refine f_ifN A220 at_138 ((if0 _ _).trans (teq (by decide : (0 : Int32) = (0 : Int32))).2) (pc' := 141) rfl ?_
          refine f_iload A220 at_141 (pc' := 143) rfl rfl ?_
          refine f_ifN A220 at_143 ((if0 _ _).trans (feq (by decide : ¬ (1 : Int32) = (0 : Int32))).1) (pc' := 146) rfl ?_
          refine f_iconst A220 at_146 (pc' := 147) rfl 1 rfl ?_
          refine f_goto A220 at_147 (pc' := 151) (by decide) (by decide) ?_
          refine f_istore A220 at_151 (pc' := 153) rfl (L' := #[.val (.int len), .val (.int x0), .val (.int x1), .val (.int x2), .val (.int x3), .val (.int x4), .val (.int (3 : Int32)), .val (.int c0), .val (.int c1), .val (.int c2), .val (.int c3), .val (.int c4), .val (.ref b220), .val (.int (0 : Int32)), .val (.int (1 : Int32)), .val (.int (1 : Int32))]) rfl ?_
          refine f_aload A220 at_153 (pc' := 155) rfl rfl rfl ?_
          refine f_callS A220 at_155 (pc' := 158) rfl (wd hw 29 rfl) (wd hw 30 rfl) (wd hw 31 rfl) (wd hw 32 rfl) (by decide) pd10 [(.ref b220)] [] rfl rfl rfl 0 (Nat.le_of_eq rfl) (CN.pay (W := 0) A220 (m_fam3 l Z a0 hw b220 t220 c0 c1 c2 zc O2 P5 1 h220 n0 A220.old G220 r0 r1 r2 (by simp [idxL, *])) (wd hw 32 rfl) (wd hw 31 rfl) (by decide) (by decide)) (kc := 0) (ks := 0) (by decide) (by decide) all0 (fun _ => sf0) fun v226 T226 h226 L226 A226 K226 q226 => ?_
          obtain ⟨rfl, hh226⟩ := q226
          obtain rfl := hh226.symm
          show Wp pG e below _ T226 (mkF m 158 _ [(.int (1 : Int32))])
          refine f_iload A226 at_158 (pc' := 160) rfl rfl ?_
          refine f_icN A226 at_160 (teq (by decide : (1 : Int32) = (1 : Int32))).2 (pc' := 163) rfl ?_
          refine f_iconst A226 at_163 (pc' := 164) rfl 1 rfl ?_
          refine f_goto A226 at_164 (pc' := 168) (by decide) (by decide) ?_
          exact f_retBW A226 hEL hlk hret at_168 (by decide) (1 : Int32) (by decide) (by decide) (by decide) Q221 rfl
        · refine f_icN A220 at_100 (feq q2).1 (pc' := 103) rfl ?_
          refine f_iload A220 at_103 (pc' := 105) rfl rfl ?_
          refine f_iconst A220 at_105 (pc' := 106) rfl 3 rfl ?_
          refine f_icY A220 at_106 (flt (by decide : ¬ (3 : Int32) < (3 : Int32))).2.2.2 (pc' := 116) (by decide) (by decide) ?_
          refine f_iload A220 at_116 (pc' := 118) rfl rfl ?_
          refine f_iconst A220 at_118 (pc' := 119) rfl 4 rfl ?_
          refine f_icY A220 at_119 (flt (by decide : ¬ (4 : Int32) < (3 : Int32))).2.2.2 (pc' := 133) (by decide) (by decide) ?_
          refine f_iconst A220 at_133 (pc' := 134) rfl 0 rfl ?_
          refine f_istore A220 at_134 (pc' := 136) rfl (L' := #[.val (.int len), .val (.int x0), .val (.int x1), .val (.int x2), .val (.int x3), .val (.int x4), .val (.int (3 : Int32)), .val (.int c0), .val (.int c1), .val (.int c2), .val (.int c3), .val (.int c4), .val (.ref b220), .val (.int (0 : Int32)), .val (.int (0 : Int32)), .unset]) rfl ?_
          refine f_iload A220 at_136 (pc' := 138) rfl rfl ?_
          refine f_ifN A220 at_138 ((if0 _ _).trans (teq (by decide : (0 : Int32) = (0 : Int32))).2) (pc' := 141) rfl ?_
          refine f_iload A220 at_141 (pc' := 143) rfl rfl ?_
          refine f_ifY A220 at_143 ((if0 _ _).trans (teq (by decide : (0 : Int32) = (0 : Int32))).1) (pc' := 150) (by decide) (by decide) ?_
          refine f_iconst A220 at_150 (pc' := 151) rfl 0 rfl ?_
          refine f_istore A220 at_151 (pc' := 153) rfl (L' := #[.val (.int len), .val (.int x0), .val (.int x1), .val (.int x2), .val (.int x3), .val (.int x4), .val (.int (3 : Int32)), .val (.int c0), .val (.int c1), .val (.int c2), .val (.int c3), .val (.int c4), .val (.ref b220), .val (.int (0 : Int32)), .val (.int (0 : Int32)), .val (.int (0 : Int32))]) rfl ?_
          refine f_aload A220 at_153 (pc' := 155) rfl rfl rfl ?_
          refine f_callS A220 at_155 (pc' := 158) rfl (wd hw 29 rfl) (wd hw 30 rfl) (wd hw 31 rfl) (wd hw 32 rfl) (by decide) pd10 [(.ref b220)] [] rfl rfl rfl 0 (Nat.le_of_eq rfl) (CN.pay (W := 0) A220 (m_fam3 l Z a0 hw b220 t220 c0 c1 c2 zc O2 P5 0 h220 n0 A220.old G220 r0 r1 r2 (by simp [idxL, *])) (wd hw 32 rfl) (wd hw 31 rfl) (by decide) (by decide)) (kc := 0) (ks := 0) (by decide) (by decide) all0 (fun _ => sf0) fun v227 T227 h227 L227 A227 K227 q227 => ?_
          obtain ⟨rfl, hh227⟩ := q227
          obtain rfl := hh227.symm
          show Wp pG e below _ T227 (mkF m 158 _ [(.int (0 : Int32))])
          refine f_iload A227 at_158 (pc' := 160) rfl rfl ?_
          refine f_icN A227 at_160 (teq (by decide : (0 : Int32) = (0 : Int32))).2 (pc' := 163) rfl ?_
          refine f_iconst A227 at_163 (pc' := 164) rfl 1 rfl ?_
          refine f_goto A227 at_164 (pc' := 168) (by decide) (by decide) ?_
          exact f_retBW A227 hEL hlk hret at_168 (by decide) (1 : Int32) (by decide) (by decide) (by decide) Q221 rfl
  · refine f_iloadN A0 at_0 (pc' := 1) rfl rfl ?_
    refine f_bipush A0 at_1 (pc' := 3) rfl 7 rfl ?_
    refine f_iand A0 at_3 (pc' := 4) rfl (len &&& (7 : Int32)) rfl ?_
    refine f_bipush A0 at_4 (pc' := 6) rfl 6 rfl ?_
    refine f_irem A0 at_6 (pc' := 7) rfl (by decide) (4 : Int32) hk ?_
    refine f_istore A0 at_7 (pc' := 9) rfl (L' := #[.val (.int len), .val (.int x0), .val (.int x1), .val (.int x2), .val (.int x3), .val (.int x4), .val (.int (4 : Int32)), .unset, .unset, .unset, .unset, .unset, .unset, .unset, .unset, .unset]) rfl ?_
    refine f_iloadN A0 at_9 (pc' := 10) rfl rfl ?_
    refine f_callS A0 at_10 (pc' := 13) rfl (wd hw 0 rfl) (wd hw 1 rfl) (wd hw 2 rfl) (wd hw 3 rfl) (by decide) pd8 [(.int x0)] [] rfl rfl rfl 0 (Nat.le_of_eq rfl) (CN.pay (W := 0) A0 (m_pick l Z a0 hw x0 c0 h0 n0 A0.old hc0) (wd hw 3 rfl) (wd hw 2 rfl) (by decide) (by decide)) (kc := 0) (ks := 0) (by decide) (by decide) all0 (fun _ => sf0) fun v228 T228 h228 L228 A228 K228 q228 => ?_
    obtain ⟨rfl, hh228⟩ := q228
    obtain rfl := hh228.symm
    show Wp pG e below _ T228 (mkF m 13 _ [(.int c0)])
    refine f_istore A228 at_13 (pc' := 15) rfl (L' := #[.val (.int len), .val (.int x0), .val (.int x1), .val (.int x2), .val (.int x3), .val (.int x4), .val (.int (4 : Int32)), .val (.int c0), .unset, .unset, .unset, .unset, .unset, .unset, .unset, .unset]) rfl ?_
    refine f_iloadN A228 at_15 (pc' := 16) rfl rfl ?_
    refine f_callS A228 at_16 (pc' := 19) rfl (wd hw 0 rfl) (wd hw 1 rfl) (wd hw 2 rfl) (wd hw 3 rfl) (by decide) pd8 [(.int x1)] [] rfl rfl rfl 0 (Nat.le_of_eq rfl) (CN.pay (W := 0) A228 (m_pick l Z a0 hw x1 c1 h0 n0 A228.old hc1) (wd hw 3 rfl) (wd hw 2 rfl) (by decide) (by decide)) (kc := 0) (ks := 0) (by decide) (by decide) all0 (fun _ => sf0) fun v229 T229 h229 L229 A229 K229 q229 => ?_
    obtain ⟨rfl, hh229⟩ := q229
    obtain rfl := hh229.symm
    show Wp pG e below _ T229 (mkF m 19 _ [(.int c1)])
    refine f_istore A229 at_19 (pc' := 21) rfl (L' := #[.val (.int len), .val (.int x0), .val (.int x1), .val (.int x2), .val (.int x3), .val (.int x4), .val (.int (4 : Int32)), .val (.int c0), .val (.int c1), .unset, .unset, .unset, .unset, .unset, .unset, .unset]) rfl ?_
    refine f_iloadN A229 at_21 (pc' := 22) rfl rfl ?_
    refine f_callS A229 at_22 (pc' := 25) rfl (wd hw 0 rfl) (wd hw 1 rfl) (wd hw 2 rfl) (wd hw 3 rfl) (by decide) pd8 [(.int x2)] [] rfl rfl rfl 0 (Nat.le_of_eq rfl) (CN.pay (W := 0) A229 (m_pick l Z a0 hw x2 c2 h0 n0 A229.old hc2) (wd hw 3 rfl) (wd hw 2 rfl) (by decide) (by decide)) (kc := 0) (ks := 0) (by decide) (by decide) all0 (fun _ => sf0) fun v230 T230 h230 L230 A230 K230 q230 => ?_
    obtain ⟨rfl, hh230⟩ := q230
    obtain rfl := hh230.symm
    show Wp pG e below _ T230 (mkF m 25 _ [(.int c2)])
    refine f_istore A230 at_25 (pc' := 27) rfl (L' := #[.val (.int len), .val (.int x0), .val (.int x1), .val (.int x2), .val (.int x3), .val (.int x4), .val (.int (4 : Int32)), .val (.int c0), .val (.int c1), .val (.int c2), .unset, .unset, .unset, .unset, .unset, .unset]) rfl ?_
    refine f_iload A230 at_27 (pc' := 29) rfl rfl ?_
    refine f_callS A230 at_29 (pc' := 32) rfl (wd hw 0 rfl) (wd hw 1 rfl) (wd hw 2 rfl) (wd hw 3 rfl) (by decide) pd8 [(.int x3)] [] rfl rfl rfl 0 (Nat.le_of_eq rfl) (CN.pay (W := 0) A230 (m_pick l Z a0 hw x3 c3 h0 n0 A230.old hc3) (wd hw 3 rfl) (wd hw 2 rfl) (by decide) (by decide)) (kc := 0) (ks := 0) (by decide) (by decide) all0 (fun _ => sf0) fun v231 T231 h231 L231 A231 K231 q231 => ?_
    obtain ⟨rfl, hh231⟩ := q231
    obtain rfl := hh231.symm
    show Wp pG e below _ T231 (mkF m 32 _ [(.int c3)])
    refine f_istore A231 at_32 (pc' := 34) rfl (L' := #[.val (.int len), .val (.int x0), .val (.int x1), .val (.int x2), .val (.int x3), .val (.int x4), .val (.int (4 : Int32)), .val (.int c0), .val (.int c1), .val (.int c2), .val (.int c3), .unset, .unset, .unset, .unset, .unset]) rfl ?_
    refine f_iload A231 at_34 (pc' := 36) rfl rfl ?_
    refine f_callS A231 at_36 (pc' := 39) rfl (wd hw 0 rfl) (wd hw 1 rfl) (wd hw 2 rfl) (wd hw 3 rfl) (by decide) pd8 [(.int x4)] [] rfl rfl rfl 0 (Nat.le_of_eq rfl) (CN.pay (W := 0) A231 (m_pick l Z a0 hw x4 c4 h0 n0 A231.old hc4) (wd hw 3 rfl) (wd hw 2 rfl) (by decide) (by decide)) (kc := 0) (ks := 0) (by decide) (by decide) all0 (fun _ => sf0) fun v232 T232 h232 L232 A232 K232 q232 => ?_
    obtain ⟨rfl, hh232⟩ := q232
    obtain rfl := hh232.symm
    show Wp pG e below _ T232 (mkF m 39 _ [(.int c4)])
    refine f_istore A232 at_39 (pc' := 41) rfl (L' := #[.val (.int len), .val (.int x0), .val (.int x1), .val (.int x2), .val (.int x3), .val (.int x4), .val (.int (4 : Int32)), .val (.int c0), .val (.int c1), .val (.int c2), .val (.int c3), .val (.int c4), .unset, .unset, .unset, .unset]) rfl ?_
    refine f_iload A232 at_41 (pc' := 43) rfl rfl ?_
    refine f_iload A232 at_43 (pc' := 45) rfl rfl ?_
    refine f_iload A232 at_45 (pc' := 47) rfl rfl ?_
    refine f_iload A232 at_47 (pc' := 49) rfl rfl ?_
    refine f_iload A232 at_49 (pc' := 51) rfl rfl ?_
    refine f_iload A232 at_51 (pc' := 53) rfl rfl ?_
    refine f_callSW A232 at_53 (pc' := 56) rfl (wd hw 4 rfl) (wd hw 5 rfl) (wd hw 2 rfl) (wd hw 6 rfl) (by decide) pd9 [(.int (4 : Int32)), (.int c0), (.int c1), (.int c2), (.int c3), (.int c4)] [] rfl rfl rfl 0 (Nat.le_of_eq rfl) (CW.pay (W := 0) A232 hEL (m_make4 l Z a0 hw c0 c1 c2 c3 c4 zc O2 P5 h0 n0 A232.old hEL r0 r1 r2 r3 r4) (wd hw 6 rfl) (wd hw 2 rfl) (by decide) (by decide) (fun _ q => nomatch q)) (kc := 5) (ks := 20) (by decide) (by decide) all0 fun v233 vm233 T233 h233 L233 A233 K233 C233 q233 => ?_
    have Q234 : Keep h0 h233 [] := K0.trans K233 all0
    obtain ⟨b233, t233, rfl, bg233, G233⟩ := q233
    show Wp pG e below _ T233 (mkF m 56 _ [(.ref b233)])
    refine f_astore A233 at_56 (pc' := 58) rfl rfl (L' := #[.val (.int len), .val (.int x0), .val (.int x1), .val (.int x2), .val (.int x3), .val (.int x4), .val (.int (4 : Int32)), .val (.int c0), .val (.int c1), .val (.int c2), .val (.int c3), .val (.int c4), .val (.ref b233), .unset, .unset, .unset]) rfl ?_
    refine f_iload A233 at_58 (pc' := 60) rfl rfl ?_
    refine f_ifN A233 at_60 ((if0 _ _).trans (tlt (by decide : (0 : Int32) < (4 : Int32))).2.2.2) (pc' := 63) rfl ?_
    refine f_iload A233 at_63 (pc' := 65) rfl rfl ?_
    refine f_bipush A233 at_65 (pc' := 67) rfl 32 rfl ?_
    by_cases q0 : c0 = (32 : Int32)
    · refine f_icN A233 at_67 (teq q0).2 (pc' := 70) rfl ?_
      refine f_iconst A233 at_70 (pc' := 71) rfl 1 rfl ?_
      refine f_goto A233 at_71 (pc' := 75) (by decide) (by decide) ?_
      refine f_istore A233 at_75 (pc' := 77) rfl (L' := #[.val (.int len), .val (.int x0), .val (.int x1), .val (.int x2), .val (.int x3), .val (.int x4), .val (.int (4 : Int32)), .val (.int c0), .val (.int c1), .val (.int c2), .val (.int c3), .val (.int c4), .val (.ref b233), .val (.int (1 : Int32)), .unset, .unset]) rfl ?_
      refine f_iload A233 at_77 (pc' := 79) rfl rfl ?_
      refine f_iconst A233 at_79 (pc' := 80) rfl 1 rfl ?_
      refine f_icN A233 at_80 (tlt (by decide : (1 : Int32) < (4 : Int32))).2.2.2 (pc' := 83) rfl ?_
      refine f_iload A233 at_83 (pc' := 85) rfl rfl ?_
      refine f_bipush A233 at_85 (pc' := 87) rfl 32 rfl ?_
      by_cases q1 : c1 = (32 : Int32)
      · refine f_icY A233 at_87 (teq q1).1 (pc' := 129) (by decide) (by decide) ?_
        refine f_iconst A233 at_129 (pc' := 130) rfl 1 rfl ?_
        refine f_goto A233 at_130 (pc' := 134) (by decide) (by decide) ?_
        refine f_istore A233 at_134 (pc' := 136) rfl (L' := #[.val (.int len), .val (.int x0), .val (.int x1), .val (.int x2), .val (.int x3), .val (.int x4), .val (.int (4 : Int32)), .val (.int c0), .val (.int c1), .val (.int c2), .val (.int c3), .val (.int c4), .val (.ref b233), .val (.int (1 : Int32)), .val (.int (1 : Int32)), .unset]) rfl ?_
        refine f_iload A233 at_136 (pc' := 138) rfl rfl ?_
        refine f_ifY A233 at_138 ((if0 _ _).trans (feq (by decide : ¬ (1 : Int32) = (0 : Int32))).2) (pc' := 150) (by decide) (by decide) ?_
        refine f_iconst A233 at_150 (pc' := 151) rfl 0 rfl ?_
        refine f_istore A233 at_151 (pc' := 153) rfl (L' := #[.val (.int len), .val (.int x0), .val (.int x1), .val (.int x2), .val (.int x3), .val (.int x4), .val (.int (4 : Int32)), .val (.int c0), .val (.int c1), .val (.int c2), .val (.int c3), .val (.int c4), .val (.ref b233), .val (.int (1 : Int32)), .val (.int (1 : Int32)), .val (.int (0 : Int32))]) rfl ?_
        refine f_aload A233 at_153 (pc' := 155) rfl rfl rfl ?_
        refine f_callS A233 at_155 (pc' := 158) rfl (wd hw 29 rfl) (wd hw 30 rfl) (wd hw 31 rfl) (wd hw 32 rfl) (by decide) pd10 [(.ref b233)] [] rfl rfl rfl 0 (Nat.le_of_eq rfl) (CN.pay (W := 0) A233 (m_fam4 l Z a0 hw b233 t233 c0 c1 c2 c3 zc O2 P5 0 h233 n0 A233.old G233 r0 r1 r2 r3 (by simp [idxL, *])) (wd hw 32 rfl) (wd hw 31 rfl) (by decide) (by decide)) (kc := 0) (ks := 0) (by decide) (by decide) all0 (fun _ => sf0) fun v235 T235 h235 L235 A235 K235 q235 => ?_
        obtain ⟨rfl, hh235⟩ := q235
        obtain rfl := hh235.symm
        show Wp pG e below _ T235 (mkF m 158 _ [(.int (0 : Int32))])
        refine f_iload A235 at_158 (pc' := 160) rfl rfl ?_
        refine f_icN A235 at_160 (teq (by decide : (0 : Int32) = (0 : Int32))).2 (pc' := 163) rfl ?_
        refine f_iconst A235 at_163 (pc' := 164) rfl 1 rfl ?_
        refine f_goto A235 at_164 (pc' := 168) (by decide) (by decide) ?_
        exact f_retBW A235 hEL hlk hret at_168 (by decide) (1 : Int32) (by decide) (by decide) (by decide) Q234 rfl
      · refine f_icN A233 at_87 (feq q1).1 (pc' := 90) rfl ?_
        refine f_iload A233 at_90 (pc' := 92) rfl rfl ?_
        refine f_iconst A233 at_92 (pc' := 93) rfl 2 rfl ?_
        refine f_icN A233 at_93 (tlt (by decide : (2 : Int32) < (4 : Int32))).2.2.2 (pc' := 96) rfl ?_
        refine f_iload A233 at_96 (pc' := 98) rfl rfl ?_
        refine f_bipush A233 at_98 (pc' := 100) rfl 32 rfl ?_
        by_cases q2 : c2 = (32 : Int32)
        · refine f_icY A233 at_100 (teq q2).1 (pc' := 129) (by decide) (by decide) ?_
          refine f_iconst A233 at_129 (pc' := 130) rfl 1 rfl ?_
          refine f_goto A233 at_130 (pc' := 134) (by decide) (by decide) ?_
          refine f_istore A233 at_134 (pc' := 136) rfl (L' := #[.val (.int len), .val (.int x0), .val (.int x1), .val (.int x2), .val (.int x3), .val (.int x4), .val (.int (4 : Int32)), .val (.int c0), .val (.int c1), .val (.int c2), .val (.int c3), .val (.int c4), .val (.ref b233), .val (.int (1 : Int32)), .val (.int (1 : Int32)), .unset]) rfl ?_
          refine f_iload A233 at_136 (pc' := 138) rfl rfl ?_
          refine f_ifY A233 at_138 ((if0 _ _).trans (feq (by decide : ¬ (1 : Int32) = (0 : Int32))).2) (pc' := 150) (by decide) (by decide) ?_
          refine f_iconst A233 at_150 (pc' := 151) rfl 0 rfl ?_
          refine f_istore A233 at_151 (pc' := 153) rfl (L' := #[.val (.int len), .val (.int x0), .val (.int x1), .val (.int x2), .val (.int x3), .val (.int x4), .val (.int (4 : Int32)), .val (.int c0), .val (.int c1), .val (.int c2), .val (.int c3), .val (.int c4), .val (.ref b233), .val (.int (1 : Int32)), .val (.int (1 : Int32)), .val (.int (0 : Int32))]) rfl ?_
          refine f_aload A233 at_153 (pc' := 155) rfl rfl rfl ?_
          refine f_callS A233 at_155 (pc' := 158) rfl (wd hw 29 rfl) (wd hw 30 rfl) (wd hw 31 rfl) (wd hw 32 rfl) (by decide) pd10 [(.ref b233)] [] rfl rfl rfl 0 (Nat.le_of_eq rfl) (CN.pay (W := 0) A233 (m_fam4 l Z a0 hw b233 t233 c0 c1 c2 c3 zc O2 P5 0 h233 n0 A233.old G233 r0 r1 r2 r3 (by simp [idxL, *])) (wd hw 32 rfl) (wd hw 31 rfl) (by decide) (by decide)) (kc := 0) (ks := 0) (by decide) (by decide) all0 (fun _ => sf0) fun v236 T236 h236 L236 A236 K236 q236 => ?_
          obtain ⟨rfl, hh236⟩ := q236
          obtain rfl := hh236.symm
          show Wp pG e below _ T236 (mkF m 158 _ [(.int (0 : Int32))])
          refine f_iload A236 at_158 (pc' := 160) rfl rfl ?_
          refine f_icN A236 at_160 (teq (by decide : (0 : Int32) = (0 : Int32))).2 (pc' := 163) rfl ?_
          refine f_iconst A236 at_163 (pc' := 164) rfl 1 rfl ?_
          refine f_goto A236 at_164 (pc' := 168) (by decide) (by decide) ?_
          exact f_retBW A236 hEL hlk hret at_168 (by decide) (1 : Int32) (by decide) (by decide) (by decide) Q234 rfl
        · refine f_icN A233 at_100 (feq q2).1 (pc' := 103) rfl ?_
          refine f_iload A233 at_103 (pc' := 105) rfl rfl ?_
          refine f_iconst A233 at_105 (pc' := 106) rfl 3 rfl ?_
          refine f_icN A233 at_106 (tlt (by decide : (3 : Int32) < (4 : Int32))).2.2.2 (pc' := 109) rfl ?_
          refine f_iload A233 at_109 (pc' := 111) rfl rfl ?_
          refine f_bipush A233 at_111 (pc' := 113) rfl 32 rfl ?_
          by_cases q3 : c3 = (32 : Int32)
          · refine f_icY A233 at_113 (teq q3).1 (pc' := 129) (by decide) (by decide) ?_
            refine f_iconst A233 at_129 (pc' := 130) rfl 1 rfl ?_
            refine f_goto A233 at_130 (pc' := 134) (by decide) (by decide) ?_
            refine f_istore A233 at_134 (pc' := 136) rfl (L' := #[.val (.int len), .val (.int x0), .val (.int x1), .val (.int x2), .val (.int x3), .val (.int x4), .val (.int (4 : Int32)), .val (.int c0), .val (.int c1), .val (.int c2), .val (.int c3), .val (.int c4), .val (.ref b233), .val (.int (1 : Int32)), .val (.int (1 : Int32)), .unset]) rfl ?_
            refine f_iload A233 at_136 (pc' := 138) rfl rfl ?_
            refine f_ifY A233 at_138 ((if0 _ _).trans (feq (by decide : ¬ (1 : Int32) = (0 : Int32))).2) (pc' := 150) (by decide) (by decide) ?_
            refine f_iconst A233 at_150 (pc' := 151) rfl 0 rfl ?_
            refine f_istore A233 at_151 (pc' := 153) rfl (L' := #[.val (.int len), .val (.int x0), .val (.int x1), .val (.int x2), .val (.int x3), .val (.int x4), .val (.int (4 : Int32)), .val (.int c0), .val (.int c1), .val (.int c2), .val (.int c3), .val (.int c4), .val (.ref b233), .val (.int (1 : Int32)), .val (.int (1 : Int32)), .val (.int (0 : Int32))]) rfl ?_
            refine f_aload A233 at_153 (pc' := 155) rfl rfl rfl ?_
            refine f_callS A233 at_155 (pc' := 158) rfl (wd hw 29 rfl) (wd hw 30 rfl) (wd hw 31 rfl) (wd hw 32 rfl) (by decide) pd10 [(.ref b233)] [] rfl rfl rfl 0 (Nat.le_of_eq rfl) (CN.pay (W := 0) A233 (m_fam4 l Z a0 hw b233 t233 c0 c1 c2 c3 zc O2 P5 0 h233 n0 A233.old G233 r0 r1 r2 r3 (by simp [idxL, *])) (wd hw 32 rfl) (wd hw 31 rfl) (by decide) (by decide)) (kc := 0) (ks := 0) (by decide) (by decide) all0 (fun _ => sf0) fun v237 T237 h237 L237 A237 K237 q237 => ?_
            obtain ⟨rfl, hh237⟩ := q237
            obtain rfl := hh237.symm
            show Wp pG e below _ T237 (mkF m 158 _ [(.int (0 : Int32))])
            refine f_iload A237 at_158 (pc' := 160) rfl rfl ?_
            refine f_icN A237 at_160 (teq (by decide : (0 : Int32) = (0 : Int32))).2 (pc' := 163) rfl ?_
            refine f_iconst A237 at_163 (pc' := 164) rfl 1 rfl ?_
            refine f_goto A237 at_164 (pc' := 168) (by decide) (by decide) ?_
            exact f_retBW A237 hEL hlk hret at_168 (by decide) (1 : Int32) (by decide) (by decide) (by decide) Q234 rfl
          · refine f_icN A233 at_113 (feq q3).1 (pc' := 116) rfl ?_
            refine f_iload A233 at_116 (pc' := 118) rfl rfl ?_
            refine f_iconst A233 at_118 (pc' := 119) rfl 4 rfl ?_
            refine f_icY A233 at_119 (flt (by decide : ¬ (4 : Int32) < (4 : Int32))).2.2.2 (pc' := 133) (by decide) (by decide) ?_
            refine f_iconst A233 at_133 (pc' := 134) rfl 0 rfl ?_
            refine f_istore A233 at_134 (pc' := 136) rfl (L' := #[.val (.int len), .val (.int x0), .val (.int x1), .val (.int x2), .val (.int x3), .val (.int x4), .val (.int (4 : Int32)), .val (.int c0), .val (.int c1), .val (.int c2), .val (.int c3), .val (.int c4), .val (.ref b233), .val (.int (1 : Int32)), .val (.int (0 : Int32)), .unset]) rfl ?_
            refine f_iload A233 at_136 (pc' := 138) rfl rfl ?_
            refine f_ifY A233 at_138 ((if0 _ _).trans (feq (by decide : ¬ (1 : Int32) = (0 : Int32))).2) (pc' := 150) (by decide) (by decide) ?_
            refine f_iconst A233 at_150 (pc' := 151) rfl 0 rfl ?_
            refine f_istore A233 at_151 (pc' := 153) rfl (L' := #[.val (.int len), .val (.int x0), .val (.int x1), .val (.int x2), .val (.int x3), .val (.int x4), .val (.int (4 : Int32)), .val (.int c0), .val (.int c1), .val (.int c2), .val (.int c3), .val (.int c4), .val (.ref b233), .val (.int (1 : Int32)), .val (.int (0 : Int32)), .val (.int (0 : Int32))]) rfl ?_
            refine f_aload A233 at_153 (pc' := 155) rfl rfl rfl ?_
            refine f_callS A233 at_155 (pc' := 158) rfl (wd hw 29 rfl) (wd hw 30 rfl) (wd hw 31 rfl) (wd hw 32 rfl) (by decide) pd10 [(.ref b233)] [] rfl rfl rfl 0 (Nat.le_of_eq rfl) (CN.pay (W := 0) A233 (m_fam4 l Z a0 hw b233 t233 c0 c1 c2 c3 zc O2 P5 0 h233 n0 A233.old G233 r0 r1 r2 r3 (by simp [idxL, *])) (wd hw 32 rfl) (wd hw 31 rfl) (by decide) (by decide)) (kc := 0) (ks := 0) (by decide) (by decide) all0 (fun _ => sf0) fun v238 T238 h238 L238 A238 K238 q238 => ?_
            obtain ⟨rfl, hh238⟩ := q238
            obtain rfl := hh238.symm
            show Wp pG e below _ T238 (mkF m 158 _ [(.int (0 : Int32))])
            refine f_iload A238 at_158 (pc' := 160) rfl rfl ?_
            refine f_icN A238 at_160 (teq (by decide : (0 : Int32) = (0 : Int32))).2 (pc' := 163) rfl ?_
            refine f_iconst A238 at_163 (pc' := 164) rfl 1 rfl ?_
            refine f_goto A238 at_164 (pc' := 168) (by decide) (by decide) ?_
            exact f_retBW A238 hEL hlk hret at_168 (by decide) (1 : Int32) (by decide) (by decide) (by decide) Q234 rfl
    · refine f_icY A233 at_67 (feq q0).2 (pc' := 74) (by decide) (by decide) ?_
      refine f_iconst A233 at_74 (pc' := 75) rfl 0 rfl ?_
      refine f_istore A233 at_75 (pc' := 77) rfl (L' := #[.val (.int len), .val (.int x0), .val (.int x1), .val (.int x2), .val (.int x3), .val (.int x4), .val (.int (4 : Int32)), .val (.int c0), .val (.int c1), .val (.int c2), .val (.int c3), .val (.int c4), .val (.ref b233), .val (.int (0 : Int32)), .unset, .unset]) rfl ?_
      refine f_iload A233 at_77 (pc' := 79) rfl rfl ?_
      refine f_iconst A233 at_79 (pc' := 80) rfl 1 rfl ?_
      refine f_icN A233 at_80 (tlt (by decide : (1 : Int32) < (4 : Int32))).2.2.2 (pc' := 83) rfl ?_
      refine f_iload A233 at_83 (pc' := 85) rfl rfl ?_
      refine f_bipush A233 at_85 (pc' := 87) rfl 32 rfl ?_
      by_cases q1 : c1 = (32 : Int32)
      · refine f_icY A233 at_87 (teq q1).1 (pc' := 129) (by decide) (by decide) ?_
        refine f_iconst A233 at_129 (pc' := 130) rfl 1 rfl ?_
        refine f_goto A233 at_130 (pc' := 134) (by decide) (by decide) ?_
        refine f_istore A233 at_134 (pc' := 136) rfl (L' := #[.val (.int len), .val (.int x0), .val (.int x1), .val (.int x2), .val (.int x3), .val (.int x4), .val (.int (4 : Int32)), .val (.int c0), .val (.int c1), .val (.int c2), .val (.int c3), .val (.int c4), .val (.ref b233), .val (.int (0 : Int32)), .val (.int (1 : Int32)), .unset]) rfl ?_
        refine f_iload A233 at_136 (pc' := 138) rfl rfl ?_
        refine f_ifN A233 at_138 ((if0 _ _).trans (teq (by decide : (0 : Int32) = (0 : Int32))).2) (pc' := 141) rfl ?_
        refine f_iload A233 at_141 (pc' := 143) rfl rfl ?_
        refine f_ifN A233 at_143 ((if0 _ _).trans (feq (by decide : ¬ (1 : Int32) = (0 : Int32))).1) (pc' := 146) rfl ?_
        refine f_iconst A233 at_146 (pc' := 147) rfl 1 rfl ?_
        refine f_goto A233 at_147 (pc' := 151) (by decide) (by decide) ?_
        refine f_istore A233 at_151 (pc' := 153) rfl (L' := #[.val (.int len), .val (.int x0), .val (.int x1), .val (.int x2), .val (.int x3), .val (.int x4), .val (.int (4 : Int32)), .val (.int c0), .val (.int c1), .val (.int c2), .val (.int c3), .val (.int c4), .val (.ref b233), .val (.int (0 : Int32)), .val (.int (1 : Int32)), .val (.int (1 : Int32))]) rfl ?_
        refine f_aload A233 at_153 (pc' := 155) rfl rfl rfl ?_
        refine f_callS A233 at_155 (pc' := 158) rfl (wd hw 29 rfl) (wd hw 30 rfl) (wd hw 31 rfl) (wd hw 32 rfl) (by decide) pd10 [(.ref b233)] [] rfl rfl rfl 0 (Nat.le_of_eq rfl) (CN.pay (W := 0) A233 (m_fam4 l Z a0 hw b233 t233 c0 c1 c2 c3 zc O2 P5 1 h233 n0 A233.old G233 r0 r1 r2 r3 (by simp [idxL, *])) (wd hw 32 rfl) (wd hw 31 rfl) (by decide) (by decide)) (kc := 0) (ks := 0) (by decide) (by decide) all0 (fun _ => sf0) fun v239 T239 h239 L239 A239 K239 q239 => ?_
        obtain ⟨rfl, hh239⟩ := q239
        obtain rfl := hh239.symm
        show Wp pG e below _ T239 (mkF m 158 _ [(.int (1 : Int32))])
        refine f_iload A239 at_158 (pc' := 160) rfl rfl ?_
        refine f_icN A239 at_160 (teq (by decide : (1 : Int32) = (1 : Int32))).2 (pc' := 163) rfl ?_
        refine f_iconst A239 at_163 (pc' := 164) rfl 1 rfl ?_
        refine f_goto A239 at_164 (pc' := 168) (by decide) (by decide) ?_
        exact f_retBW A239 hEL hlk hret at_168 (by decide) (1 : Int32) (by decide) (by decide) (by decide) Q234 rfl
      · refine f_icN A233 at_87 (feq q1).1 (pc' := 90) rfl ?_
        refine f_iload A233 at_90 (pc' := 92) rfl rfl ?_
        refine f_iconst A233 at_92 (pc' := 93) rfl 2 rfl ?_
        refine f_icN A233 at_93 (tlt (by decide : (2 : Int32) < (4 : Int32))).2.2.2 (pc' := 96) rfl ?_
        refine f_iload A233 at_96 (pc' := 98) rfl rfl ?_
        refine f_bipush A233 at_98 (pc' := 100) rfl 32 rfl ?_
        by_cases q2 : c2 = (32 : Int32)
        · refine f_icY A233 at_100 (teq q2).1 (pc' := 129) (by decide) (by decide) ?_
          refine f_iconst A233 at_129 (pc' := 130) rfl 1 rfl ?_
          refine f_goto A233 at_130 (pc' := 134) (by decide) (by decide) ?_
          refine f_istore A233 at_134 (pc' := 136) rfl (L' := #[.val (.int len), .val (.int x0), .val (.int x1), .val (.int x2), .val (.int x3), .val (.int x4), .val (.int (4 : Int32)), .val (.int c0), .val (.int c1), .val (.int c2), .val (.int c3), .val (.int c4), .val (.ref b233), .val (.int (0 : Int32)), .val (.int (1 : Int32)), .unset]) rfl ?_
          refine f_iload A233 at_136 (pc' := 138) rfl rfl ?_
          refine f_ifN A233 at_138 ((if0 _ _).trans (teq (by decide : (0 : Int32) = (0 : Int32))).2) (pc' := 141) rfl ?_
          refine f_iload A233 at_141 (pc' := 143) rfl rfl ?_
          refine f_ifN A233 at_143 ((if0 _ _).trans (feq (by decide : ¬ (1 : Int32) = (0 : Int32))).1) (pc' := 146) rfl ?_
          refine f_iconst A233 at_146 (pc' := 147) rfl 1 rfl ?_
          refine f_goto A233 at_147 (pc' := 151) (by decide) (by decide) ?_
          refine f_istore A233 at_151 (pc' := 153) rfl (L' := #[.val (.int len), .val (.int x0), .val (.int x1), .val (.int x2), .val (.int x3), .val (.int x4), .val (.int (4 : Int32)), .val (.int c0), .val (.int c1), .val (.int c2), .val (.int c3), .val (.int c4), .val (.ref b233), .val (.int (0 : Int32)), .val (.int (1 : Int32)), .val (.int (1 : Int32))]) rfl ?_
          refine f_aload A233 at_153 (pc' := 155) rfl rfl rfl ?_
          refine f_callS A233 at_155 (pc' := 158) rfl (wd hw 29 rfl) (wd hw 30 rfl) (wd hw 31 rfl) (wd hw 32 rfl) (by decide) pd10 [(.ref b233)] [] rfl rfl rfl 0 (Nat.le_of_eq rfl) (CN.pay (W := 0) A233 (m_fam4 l Z a0 hw b233 t233 c0 c1 c2 c3 zc O2 P5 1 h233 n0 A233.old G233 r0 r1 r2 r3 (by simp [idxL, *])) (wd hw 32 rfl) (wd hw 31 rfl) (by decide) (by decide)) (kc := 0) (ks := 0) (by decide) (by decide) all0 (fun _ => sf0) fun v240 T240 h240 L240 A240 K240 q240 => ?_
          obtain ⟨rfl, hh240⟩ := q240
          obtain rfl := hh240.symm
          show Wp pG e below _ T240 (mkF m 158 _ [(.int (1 : Int32))])
          refine f_iload A240 at_158 (pc' := 160) rfl rfl ?_
          refine f_icN A240 at_160 (teq (by decide : (1 : Int32) = (1 : Int32))).2 (pc' := 163) rfl ?_
          refine f_iconst A240 at_163 (pc' := 164) rfl 1 rfl ?_
          refine f_goto A240 at_164 (pc' := 168) (by decide) (by decide) ?_
          exact f_retBW A240 hEL hlk hret at_168 (by decide) (1 : Int32) (by decide) (by decide) (by decide) Q234 rfl
        · refine f_icN A233 at_100 (feq q2).1 (pc' := 103) rfl ?_
          refine f_iload A233 at_103 (pc' := 105) rfl rfl ?_
          refine f_iconst A233 at_105 (pc' := 106) rfl 3 rfl ?_
          refine f_icN A233 at_106 (tlt (by decide : (3 : Int32) < (4 : Int32))).2.2.2 (pc' := 109) rfl ?_
          refine f_iload A233 at_109 (pc' := 111) rfl rfl ?_
          refine f_bipush A233 at_111 (pc' := 113) rfl 32 rfl ?_
          by_cases q3 : c3 = (32 : Int32)
          · refine f_icY A233 at_113 (teq q3).1 (pc' := 129) (by decide) (by decide) ?_
            refine f_iconst A233 at_129 (pc' := 130) rfl 1 rfl ?_
            refine f_goto A233 at_130 (pc' := 134) (by decide) (by decide) ?_
            refine f_istore A233 at_134 (pc' := 136) rfl (L' := #[.val (.int len), .val (.int x0), .val (.int x1), .val (.int x2), .val (.int x3), .val (.int x4), .val (.int (4 : Int32)), .val (.int c0), .val (.int c1), .val (.int c2), .val (.int c3), .val (.int c4), .val (.ref b233), .val (.int (0 : Int32)), .val (.int (1 : Int32)), .unset]) rfl ?_
            refine f_iload A233 at_136 (pc' := 138) rfl rfl ?_
            refine f_ifN A233 at_138 ((if0 _ _).trans (teq (by decide : (0 : Int32) = (0 : Int32))).2) (pc' := 141) rfl ?_
            refine f_iload A233 at_141 (pc' := 143) rfl rfl ?_
            refine f_ifN A233 at_143 ((if0 _ _).trans (feq (by decide : ¬ (1 : Int32) = (0 : Int32))).1) (pc' := 146) rfl ?_
            refine f_iconst A233 at_146 (pc' := 147) rfl 1 rfl ?_
            refine f_goto A233 at_147 (pc' := 151) (by decide) (by decide) ?_
            refine f_istore A233 at_151 (pc' := 153) rfl (L' := #[.val (.int len), .val (.int x0), .val (.int x1), .val (.int x2), .val (.int x3), .val (.int x4), .val (.int (4 : Int32)), .val (.int c0), .val (.int c1), .val (.int c2), .val (.int c3), .val (.int c4), .val (.ref b233), .val (.int (0 : Int32)), .val (.int (1 : Int32)), .val (.int (1 : Int32))]) rfl ?_
            refine f_aload A233 at_153 (pc' := 155) rfl rfl rfl ?_
            refine f_callS A233 at_155 (pc' := 158) rfl (wd hw 29 rfl) (wd hw 30 rfl) (wd hw 31 rfl) (wd hw 32 rfl) (by decide) pd10 [(.ref b233)] [] rfl rfl rfl 0 (Nat.le_of_eq rfl) (CN.pay (W := 0) A233 (m_fam4 l Z a0 hw b233 t233 c0 c1 c2 c3 zc O2 P5 1 h233 n0 A233.old G233 r0 r1 r2 r3 (by simp [idxL, *])) (wd hw 32 rfl) (wd hw 31 rfl) (by decide) (by decide)) (kc := 0) (ks := 0) (by decide) (by decide) all0 (fun _ => sf0) fun v241 T241 h241 L241 A241 K241 q241 => ?_
            obtain ⟨rfl, hh241⟩ := q241
            obtain rfl := hh241.symm
            show Wp pG e below _ T241 (mkF m 158 _ [(.int (1 : Int32))])
            refine f_iload A241 at_158 (pc' := 160) rfl rfl ?_
            refine f_icN A241 at_160 (teq (by decide : (1 : Int32) = (1 : Int32))).2 (pc' := 163) rfl ?_
            refine f_iconst A241 at_163 (pc' := 164) rfl 1 rfl ?_
            refine f_goto A241 at_164 (pc' := 168) (by decide) (by decide) ?_
            exact f_retBW A241 hEL hlk hret at_168 (by decide) (1 : Int32) (by decide) (by decide) (by decide) Q234 rfl
          · refine f_icN A233 at_113 (feq q3).1 (pc' := 116) rfl ?_
            refine f_iload A233 at_116 (pc' := 118) rfl rfl ?_
            refine f_iconst A233 at_118 (pc' := 119) rfl 4 rfl ?_
            refine f_icY A233 at_119 (flt (by decide : ¬ (4 : Int32) < (4 : Int32))).2.2.2 (pc' := 133) (by decide) (by decide) ?_
            refine f_iconst A233 at_133 (pc' := 134) rfl 0 rfl ?_
            refine f_istore A233 at_134 (pc' := 136) rfl (L' := #[.val (.int len), .val (.int x0), .val (.int x1), .val (.int x2), .val (.int x3), .val (.int x4), .val (.int (4 : Int32)), .val (.int c0), .val (.int c1), .val (.int c2), .val (.int c3), .val (.int c4), .val (.ref b233), .val (.int (0 : Int32)), .val (.int (0 : Int32)), .unset]) rfl ?_
            refine f_iload A233 at_136 (pc' := 138) rfl rfl ?_
            refine f_ifN A233 at_138 ((if0 _ _).trans (teq (by decide : (0 : Int32) = (0 : Int32))).2) (pc' := 141) rfl ?_
            refine f_iload A233 at_141 (pc' := 143) rfl rfl ?_
            refine f_ifY A233 at_143 ((if0 _ _).trans (teq (by decide : (0 : Int32) = (0 : Int32))).1) (pc' := 150) (by decide) (by decide) ?_
            refine f_iconst A233 at_150 (pc' := 151) rfl 0 rfl ?_
            refine f_istore A233 at_151 (pc' := 153) rfl (L' := #[.val (.int len), .val (.int x0), .val (.int x1), .val (.int x2), .val (.int x3), .val (.int x4), .val (.int (4 : Int32)), .val (.int c0), .val (.int c1), .val (.int c2), .val (.int c3), .val (.int c4), .val (.ref b233), .val (.int (0 : Int32)), .val (.int (0 : Int32)), .val (.int (0 : Int32))]) rfl ?_
            refine f_aload A233 at_153 (pc' := 155) rfl rfl rfl ?_
            refine f_callS A233 at_155 (pc' := 158) rfl (wd hw 29 rfl) (wd hw 30 rfl) (wd hw 31 rfl) (wd hw 32 rfl) (by decide) pd10 [(.ref b233)] [] rfl rfl rfl 0 (Nat.le_of_eq rfl) (CN.pay (W := 0) A233 (m_fam4 l Z a0 hw b233 t233 c0 c1 c2 c3 zc O2 P5 0 h233 n0 A233.old G233 r0 r1 r2 r3 (by simp [idxL, *])) (wd hw 32 rfl) (wd hw 31 rfl) (by decide) (by decide)) (kc := 0) (ks := 0) (by decide) (by decide) all0 (fun _ => sf0) fun v242 T242 h242 L242 A242 K242 q242 => ?_
            obtain ⟨rfl, hh242⟩ := q242
            obtain rfl := hh242.symm
            show Wp pG e below _ T242 (mkF m 158 _ [(.int (0 : Int32))])
            refine f_iload A242 at_158 (pc' := 160) rfl rfl ?_
            refine f_icN A242 at_160 (teq (by decide : (0 : Int32) = (0 : Int32))).2 (pc' := 163) rfl ?_
            refine f_iconst A242 at_163 (pc' := 164) rfl 1 rfl ?_
            refine f_goto A242 at_164 (pc' := 168) (by decide) (by decide) ?_
            exact f_retBW A242 hEL hlk hret at_168 (by decide) (1 : Int32) (by decide) (by decide) (by decide) Q234 rfl
  · refine f_iloadN A0 at_0 (pc' := 1) rfl rfl ?_
    refine f_bipush A0 at_1 (pc' := 3) rfl 7 rfl ?_
    refine f_iand A0 at_3 (pc' := 4) rfl (len &&& (7 : Int32)) rfl ?_
    refine f_bipush A0 at_4 (pc' := 6) rfl 6 rfl ?_
    refine f_irem A0 at_6 (pc' := 7) rfl (by decide) (5 : Int32) hk ?_
    refine f_istore A0 at_7 (pc' := 9) rfl (L' := #[.val (.int len), .val (.int x0), .val (.int x1), .val (.int x2), .val (.int x3), .val (.int x4), .val (.int (5 : Int32)), .unset, .unset, .unset, .unset, .unset, .unset, .unset, .unset, .unset]) rfl ?_
    refine f_iloadN A0 at_9 (pc' := 10) rfl rfl ?_
    refine f_callS A0 at_10 (pc' := 13) rfl (wd hw 0 rfl) (wd hw 1 rfl) (wd hw 2 rfl) (wd hw 3 rfl) (by decide) pd8 [(.int x0)] [] rfl rfl rfl 0 (Nat.le_of_eq rfl) (CN.pay (W := 0) A0 (m_pick l Z a0 hw x0 c0 h0 n0 A0.old hc0) (wd hw 3 rfl) (wd hw 2 rfl) (by decide) (by decide)) (kc := 0) (ks := 0) (by decide) (by decide) all0 (fun _ => sf0) fun v243 T243 h243 L243 A243 K243 q243 => ?_
    obtain ⟨rfl, hh243⟩ := q243
    obtain rfl := hh243.symm
    show Wp pG e below _ T243 (mkF m 13 _ [(.int c0)])
    refine f_istore A243 at_13 (pc' := 15) rfl (L' := #[.val (.int len), .val (.int x0), .val (.int x1), .val (.int x2), .val (.int x3), .val (.int x4), .val (.int (5 : Int32)), .val (.int c0), .unset, .unset, .unset, .unset, .unset, .unset, .unset, .unset]) rfl ?_
    refine f_iloadN A243 at_15 (pc' := 16) rfl rfl ?_
    refine f_callS A243 at_16 (pc' := 19) rfl (wd hw 0 rfl) (wd hw 1 rfl) (wd hw 2 rfl) (wd hw 3 rfl) (by decide) pd8 [(.int x1)] [] rfl rfl rfl 0 (Nat.le_of_eq rfl) (CN.pay (W := 0) A243 (m_pick l Z a0 hw x1 c1 h0 n0 A243.old hc1) (wd hw 3 rfl) (wd hw 2 rfl) (by decide) (by decide)) (kc := 0) (ks := 0) (by decide) (by decide) all0 (fun _ => sf0) fun v244 T244 h244 L244 A244 K244 q244 => ?_
    obtain ⟨rfl, hh244⟩ := q244
    obtain rfl := hh244.symm
    show Wp pG e below _ T244 (mkF m 19 _ [(.int c1)])
    refine f_istore A244 at_19 (pc' := 21) rfl (L' := #[.val (.int len), .val (.int x0), .val (.int x1), .val (.int x2), .val (.int x3), .val (.int x4), .val (.int (5 : Int32)), .val (.int c0), .val (.int c1), .unset, .unset, .unset, .unset, .unset, .unset, .unset]) rfl ?_
    refine f_iloadN A244 at_21 (pc' := 22) rfl rfl ?_
    refine f_callS A244 at_22 (pc' := 25) rfl (wd hw 0 rfl) (wd hw 1 rfl) (wd hw 2 rfl) (wd hw 3 rfl) (by decide) pd8 [(.int x2)] [] rfl rfl rfl 0 (Nat.le_of_eq rfl) (CN.pay (W := 0) A244 (m_pick l Z a0 hw x2 c2 h0 n0 A244.old hc2) (wd hw 3 rfl) (wd hw 2 rfl) (by decide) (by decide)) (kc := 0) (ks := 0) (by decide) (by decide) all0 (fun _ => sf0) fun v245 T245 h245 L245 A245 K245 q245 => ?_
    obtain ⟨rfl, hh245⟩ := q245
    obtain rfl := hh245.symm
    show Wp pG e below _ T245 (mkF m 25 _ [(.int c2)])
    refine f_istore A245 at_25 (pc' := 27) rfl (L' := #[.val (.int len), .val (.int x0), .val (.int x1), .val (.int x2), .val (.int x3), .val (.int x4), .val (.int (5 : Int32)), .val (.int c0), .val (.int c1), .val (.int c2), .unset, .unset, .unset, .unset, .unset, .unset]) rfl ?_
    refine f_iload A245 at_27 (pc' := 29) rfl rfl ?_
    refine f_callS A245 at_29 (pc' := 32) rfl (wd hw 0 rfl) (wd hw 1 rfl) (wd hw 2 rfl) (wd hw 3 rfl) (by decide) pd8 [(.int x3)] [] rfl rfl rfl 0 (Nat.le_of_eq rfl) (CN.pay (W := 0) A245 (m_pick l Z a0 hw x3 c3 h0 n0 A245.old hc3) (wd hw 3 rfl) (wd hw 2 rfl) (by decide) (by decide)) (kc := 0) (ks := 0) (by decide) (by decide) all0 (fun _ => sf0) fun v246 T246 h246 L246 A246 K246 q246 => ?_
    obtain ⟨rfl, hh246⟩ := q246
    obtain rfl := hh246.symm
    show Wp pG e below _ T246 (mkF m 32 _ [(.int c3)])
    refine f_istore A246 at_32 (pc' := 34) rfl (L' := #[.val (.int len), .val (.int x0), .val (.int x1), .val (.int x2), .val (.int x3), .val (.int x4), .val (.int (5 : Int32)), .val (.int c0), .val (.int c1), .val (.int c2), .val (.int c3), .unset, .unset, .unset, .unset, .unset]) rfl ?_
    refine f_iload A246 at_34 (pc' := 36) rfl rfl ?_
    refine f_callS A246 at_36 (pc' := 39) rfl (wd hw 0 rfl) (wd hw 1 rfl) (wd hw 2 rfl) (wd hw 3 rfl) (by decide) pd8 [(.int x4)] [] rfl rfl rfl 0 (Nat.le_of_eq rfl) (CN.pay (W := 0) A246 (m_pick l Z a0 hw x4 c4 h0 n0 A246.old hc4) (wd hw 3 rfl) (wd hw 2 rfl) (by decide) (by decide)) (kc := 0) (ks := 0) (by decide) (by decide) all0 (fun _ => sf0) fun v247 T247 h247 L247 A247 K247 q247 => ?_
    obtain ⟨rfl, hh247⟩ := q247
    obtain rfl := hh247.symm
    show Wp pG e below _ T247 (mkF m 39 _ [(.int c4)])
    refine f_istore A247 at_39 (pc' := 41) rfl (L' := #[.val (.int len), .val (.int x0), .val (.int x1), .val (.int x2), .val (.int x3), .val (.int x4), .val (.int (5 : Int32)), .val (.int c0), .val (.int c1), .val (.int c2), .val (.int c3), .val (.int c4), .unset, .unset, .unset, .unset]) rfl ?_
    refine f_iload A247 at_41 (pc' := 43) rfl rfl ?_
    refine f_iload A247 at_43 (pc' := 45) rfl rfl ?_
    refine f_iload A247 at_45 (pc' := 47) rfl rfl ?_
    refine f_iload A247 at_47 (pc' := 49) rfl rfl ?_
    refine f_iload A247 at_49 (pc' := 51) rfl rfl ?_
    refine f_iload A247 at_51 (pc' := 53) rfl rfl ?_
    refine f_callSW A247 at_53 (pc' := 56) rfl (wd hw 4 rfl) (wd hw 5 rfl) (wd hw 2 rfl) (wd hw 6 rfl) (by decide) pd9 [(.int (5 : Int32)), (.int c0), (.int c1), (.int c2), (.int c3), (.int c4)] [] rfl rfl rfl 0 (Nat.le_of_eq rfl) (CW.pay (W := 0) A247 hEL (m_make5 l Z a0 hw c0 c1 c2 c3 c4 zc O2 P5 h0 n0 A247.old hEL r0 r1 r2 r3 r4) (wd hw 6 rfl) (wd hw 2 rfl) (by decide) (by decide) (fun _ q => nomatch q)) (kc := 5) (ks := 20) (by decide) (by decide) all0 fun v248 vm248 T248 h248 L248 A248 K248 C248 q248 => ?_
    have Q249 : Keep h0 h248 [] := K0.trans K248 all0
    obtain ⟨b248, t248, rfl, bg248, G248⟩ := q248
    show Wp pG e below _ T248 (mkF m 56 _ [(.ref b248)])
    refine f_astore A248 at_56 (pc' := 58) rfl rfl (L' := #[.val (.int len), .val (.int x0), .val (.int x1), .val (.int x2), .val (.int x3), .val (.int x4), .val (.int (5 : Int32)), .val (.int c0), .val (.int c1), .val (.int c2), .val (.int c3), .val (.int c4), .val (.ref b248), .unset, .unset, .unset]) rfl ?_
    refine f_iload A248 at_58 (pc' := 60) rfl rfl ?_
    refine f_ifN A248 at_60 ((if0 _ _).trans (tlt (by decide : (0 : Int32) < (5 : Int32))).2.2.2) (pc' := 63) rfl ?_
    refine f_iload A248 at_63 (pc' := 65) rfl rfl ?_
    refine f_bipush A248 at_65 (pc' := 67) rfl 32 rfl ?_
    by_cases q0 : c0 = (32 : Int32)
    · refine f_icN A248 at_67 (teq q0).2 (pc' := 70) rfl ?_
      refine f_iconst A248 at_70 (pc' := 71) rfl 1 rfl ?_
      refine f_goto A248 at_71 (pc' := 75) (by decide) (by decide) ?_
      refine f_istore A248 at_75 (pc' := 77) rfl (L' := #[.val (.int len), .val (.int x0), .val (.int x1), .val (.int x2), .val (.int x3), .val (.int x4), .val (.int (5 : Int32)), .val (.int c0), .val (.int c1), .val (.int c2), .val (.int c3), .val (.int c4), .val (.ref b248), .val (.int (1 : Int32)), .unset, .unset]) rfl ?_
      refine f_iload A248 at_77 (pc' := 79) rfl rfl ?_
      refine f_iconst A248 at_79 (pc' := 80) rfl 1 rfl ?_
      refine f_icN A248 at_80 (tlt (by decide : (1 : Int32) < (5 : Int32))).2.2.2 (pc' := 83) rfl ?_
      refine f_iload A248 at_83 (pc' := 85) rfl rfl ?_
      refine f_bipush A248 at_85 (pc' := 87) rfl 32 rfl ?_
      by_cases q1 : c1 = (32 : Int32)
      · refine f_icY A248 at_87 (teq q1).1 (pc' := 129) (by decide) (by decide) ?_
        refine f_iconst A248 at_129 (pc' := 130) rfl 1 rfl ?_
        refine f_goto A248 at_130 (pc' := 134) (by decide) (by decide) ?_
        refine f_istore A248 at_134 (pc' := 136) rfl (L' := #[.val (.int len), .val (.int x0), .val (.int x1), .val (.int x2), .val (.int x3), .val (.int x4), .val (.int (5 : Int32)), .val (.int c0), .val (.int c1), .val (.int c2), .val (.int c3), .val (.int c4), .val (.ref b248), .val (.int (1 : Int32)), .val (.int (1 : Int32)), .unset]) rfl ?_
        refine f_iload A248 at_136 (pc' := 138) rfl rfl ?_
        refine f_ifY A248 at_138 ((if0 _ _).trans (feq (by decide : ¬ (1 : Int32) = (0 : Int32))).2) (pc' := 150) (by decide) (by decide) ?_
        refine f_iconst A248 at_150 (pc' := 151) rfl 0 rfl ?_
        refine f_istore A248 at_151 (pc' := 153) rfl (L' := #[.val (.int len), .val (.int x0), .val (.int x1), .val (.int x2), .val (.int x3), .val (.int x4), .val (.int (5 : Int32)), .val (.int c0), .val (.int c1), .val (.int c2), .val (.int c3), .val (.int c4), .val (.ref b248), .val (.int (1 : Int32)), .val (.int (1 : Int32)), .val (.int (0 : Int32))]) rfl ?_
        refine f_aload A248 at_153 (pc' := 155) rfl rfl rfl ?_
        refine f_callS A248 at_155 (pc' := 158) rfl (wd hw 29 rfl) (wd hw 30 rfl) (wd hw 31 rfl) (wd hw 32 rfl) (by decide) pd10 [(.ref b248)] [] rfl rfl rfl 0 (Nat.le_of_eq rfl) (CN.pay (W := 0) A248 (m_fam5 l Z a0 hw b248 t248 c0 c1 c2 c3 c4 zc O2 P5 0 h248 n0 A248.old G248 r0 r1 r2 r3 r4 (by simp [idxL, *])) (wd hw 32 rfl) (wd hw 31 rfl) (by decide) (by decide)) (kc := 0) (ks := 0) (by decide) (by decide) all0 (fun _ => sf0) fun v250 T250 h250 L250 A250 K250 q250 => ?_
        obtain ⟨rfl, hh250⟩ := q250
        obtain rfl := hh250.symm
        show Wp pG e below _ T250 (mkF m 158 _ [(.int (0 : Int32))])
        refine f_iload A250 at_158 (pc' := 160) rfl rfl ?_
        refine f_icN A250 at_160 (teq (by decide : (0 : Int32) = (0 : Int32))).2 (pc' := 163) rfl ?_
        refine f_iconst A250 at_163 (pc' := 164) rfl 1 rfl ?_
        refine f_goto A250 at_164 (pc' := 168) (by decide) (by decide) ?_
        exact f_retBW A250 hEL hlk hret at_168 (by decide) (1 : Int32) (by decide) (by decide) (by decide) Q249 rfl
      · refine f_icN A248 at_87 (feq q1).1 (pc' := 90) rfl ?_
        refine f_iload A248 at_90 (pc' := 92) rfl rfl ?_
        refine f_iconst A248 at_92 (pc' := 93) rfl 2 rfl ?_
        refine f_icN A248 at_93 (tlt (by decide : (2 : Int32) < (5 : Int32))).2.2.2 (pc' := 96) rfl ?_
        refine f_iload A248 at_96 (pc' := 98) rfl rfl ?_
        refine f_bipush A248 at_98 (pc' := 100) rfl 32 rfl ?_
        by_cases q2 : c2 = (32 : Int32)
        · refine f_icY A248 at_100 (teq q2).1 (pc' := 129) (by decide) (by decide) ?_
          refine f_iconst A248 at_129 (pc' := 130) rfl 1 rfl ?_
          refine f_goto A248 at_130 (pc' := 134) (by decide) (by decide) ?_
          refine f_istore A248 at_134 (pc' := 136) rfl (L' := #[.val (.int len), .val (.int x0), .val (.int x1), .val (.int x2), .val (.int x3), .val (.int x4), .val (.int (5 : Int32)), .val (.int c0), .val (.int c1), .val (.int c2), .val (.int c3), .val (.int c4), .val (.ref b248), .val (.int (1 : Int32)), .val (.int (1 : Int32)), .unset]) rfl ?_
          refine f_iload A248 at_136 (pc' := 138) rfl rfl ?_
          refine f_ifY A248 at_138 ((if0 _ _).trans (feq (by decide : ¬ (1 : Int32) = (0 : Int32))).2) (pc' := 150) (by decide) (by decide) ?_
          refine f_iconst A248 at_150 (pc' := 151) rfl 0 rfl ?_
          refine f_istore A248 at_151 (pc' := 153) rfl (L' := #[.val (.int len), .val (.int x0), .val (.int x1), .val (.int x2), .val (.int x3), .val (.int x4), .val (.int (5 : Int32)), .val (.int c0), .val (.int c1), .val (.int c2), .val (.int c3), .val (.int c4), .val (.ref b248), .val (.int (1 : Int32)), .val (.int (1 : Int32)), .val (.int (0 : Int32))]) rfl ?_
          refine f_aload A248 at_153 (pc' := 155) rfl rfl rfl ?_
          refine f_callS A248 at_155 (pc' := 158) rfl (wd hw 29 rfl) (wd hw 30 rfl) (wd hw 31 rfl) (wd hw 32 rfl) (by decide) pd10 [(.ref b248)] [] rfl rfl rfl 0 (Nat.le_of_eq rfl) (CN.pay (W := 0) A248 (m_fam5 l Z a0 hw b248 t248 c0 c1 c2 c3 c4 zc O2 P5 0 h248 n0 A248.old G248 r0 r1 r2 r3 r4 (by simp [idxL, *])) (wd hw 32 rfl) (wd hw 31 rfl) (by decide) (by decide)) (kc := 0) (ks := 0) (by decide) (by decide) all0 (fun _ => sf0) fun v251 T251 h251 L251 A251 K251 q251 => ?_
          obtain ⟨rfl, hh251⟩ := q251
          obtain rfl := hh251.symm
          show Wp pG e below _ T251 (mkF m 158 _ [(.int (0 : Int32))])
          refine f_iload A251 at_158 (pc' := 160) rfl rfl ?_
          refine f_icN A251 at_160 (teq (by decide : (0 : Int32) = (0 : Int32))).2 (pc' := 163) rfl ?_
          refine f_iconst A251 at_163 (pc' := 164) rfl 1 rfl ?_
          refine f_goto A251 at_164 (pc' := 168) (by decide) (by decide) ?_
          exact f_retBW A251 hEL hlk hret at_168 (by decide) (1 : Int32) (by decide) (by decide) (by decide) Q249 rfl
        · refine f_icN A248 at_100 (feq q2).1 (pc' := 103) rfl ?_
          refine f_iload A248 at_103 (pc' := 105) rfl rfl ?_
          refine f_iconst A248 at_105 (pc' := 106) rfl 3 rfl ?_
          refine f_icN A248 at_106 (tlt (by decide : (3 : Int32) < (5 : Int32))).2.2.2 (pc' := 109) rfl ?_
          refine f_iload A248 at_109 (pc' := 111) rfl rfl ?_
          refine f_bipush A248 at_111 (pc' := 113) rfl 32 rfl ?_
          by_cases q3 : c3 = (32 : Int32)
          · refine f_icY A248 at_113 (teq q3).1 (pc' := 129) (by decide) (by decide) ?_
            refine f_iconst A248 at_129 (pc' := 130) rfl 1 rfl ?_
            refine f_goto A248 at_130 (pc' := 134) (by decide) (by decide) ?_
            refine f_istore A248 at_134 (pc' := 136) rfl (L' := #[.val (.int len), .val (.int x0), .val (.int x1), .val (.int x2), .val (.int x3), .val (.int x4), .val (.int (5 : Int32)), .val (.int c0), .val (.int c1), .val (.int c2), .val (.int c3), .val (.int c4), .val (.ref b248), .val (.int (1 : Int32)), .val (.int (1 : Int32)), .unset]) rfl ?_
            refine f_iload A248 at_136 (pc' := 138) rfl rfl ?_
            refine f_ifY A248 at_138 ((if0 _ _).trans (feq (by decide : ¬ (1 : Int32) = (0 : Int32))).2) (pc' := 150) (by decide) (by decide) ?_
            refine f_iconst A248 at_150 (pc' := 151) rfl 0 rfl ?_
            refine f_istore A248 at_151 (pc' := 153) rfl (L' := #[.val (.int len), .val (.int x0), .val (.int x1), .val (.int x2), .val (.int x3), .val (.int x4), .val (.int (5 : Int32)), .val (.int c0), .val (.int c1), .val (.int c2), .val (.int c3), .val (.int c4), .val (.ref b248), .val (.int (1 : Int32)), .val (.int (1 : Int32)), .val (.int (0 : Int32))]) rfl ?_
            refine f_aload A248 at_153 (pc' := 155) rfl rfl rfl ?_
            refine f_callS A248 at_155 (pc' := 158) rfl (wd hw 29 rfl) (wd hw 30 rfl) (wd hw 31 rfl) (wd hw 32 rfl) (by decide) pd10 [(.ref b248)] [] rfl rfl rfl 0 (Nat.le_of_eq rfl) (CN.pay (W := 0) A248 (m_fam5 l Z a0 hw b248 t248 c0 c1 c2 c3 c4 zc O2 P5 0 h248 n0 A248.old G248 r0 r1 r2 r3 r4 (by simp [idxL, *])) (wd hw 32 rfl) (wd hw 31 rfl) (by decide) (by decide)) (kc := 0) (ks := 0) (by decide) (by decide) all0 (fun _ => sf0) fun v252 T252 h252 L252 A252 K252 q252 => ?_
            obtain ⟨rfl, hh252⟩ := q252
            obtain rfl := hh252.symm
            show Wp pG e below _ T252 (mkF m 158 _ [(.int (0 : Int32))])
            refine f_iload A252 at_158 (pc' := 160) rfl rfl ?_
            refine f_icN A252 at_160 (teq (by decide : (0 : Int32) = (0 : Int32))).2 (pc' := 163) rfl ?_
            refine f_iconst A252 at_163 (pc' := 164) rfl 1 rfl ?_
            refine f_goto A252 at_164 (pc' := 168) (by decide) (by decide) ?_
            exact f_retBW A252 hEL hlk hret at_168 (by decide) (1 : Int32) (by decide) (by decide) (by decide) Q249 rfl
          · refine f_icN A248 at_113 (feq q3).1 (pc' := 116) rfl ?_
            refine f_iload A248 at_116 (pc' := 118) rfl rfl ?_
            refine f_iconst A248 at_118 (pc' := 119) rfl 4 rfl ?_
            refine f_icN A248 at_119 (tlt (by decide : (4 : Int32) < (5 : Int32))).2.2.2 (pc' := 122) rfl ?_
            refine f_iload A248 at_122 (pc' := 124) rfl rfl ?_
            refine f_bipush A248 at_124 (pc' := 126) rfl 32 rfl ?_
            by_cases q4 : c4 = (32 : Int32)
            · refine f_icN A248 at_126 (teq q4).2 (pc' := 129) rfl ?_
              refine f_iconst A248 at_129 (pc' := 130) rfl 1 rfl ?_
              refine f_goto A248 at_130 (pc' := 134) (by decide) (by decide) ?_
              refine f_istore A248 at_134 (pc' := 136) rfl (L' := #[.val (.int len), .val (.int x0), .val (.int x1), .val (.int x2), .val (.int x3), .val (.int x4), .val (.int (5 : Int32)), .val (.int c0), .val (.int c1), .val (.int c2), .val (.int c3), .val (.int c4), .val (.ref b248), .val (.int (1 : Int32)), .val (.int (1 : Int32)), .unset]) rfl ?_
              refine f_iload A248 at_136 (pc' := 138) rfl rfl ?_
              refine f_ifY A248 at_138 ((if0 _ _).trans (feq (by decide : ¬ (1 : Int32) = (0 : Int32))).2) (pc' := 150) (by decide) (by decide) ?_
              refine f_iconst A248 at_150 (pc' := 151) rfl 0 rfl ?_
              refine f_istore A248 at_151 (pc' := 153) rfl (L' := #[.val (.int len), .val (.int x0), .val (.int x1), .val (.int x2), .val (.int x3), .val (.int x4), .val (.int (5 : Int32)), .val (.int c0), .val (.int c1), .val (.int c2), .val (.int c3), .val (.int c4), .val (.ref b248), .val (.int (1 : Int32)), .val (.int (1 : Int32)), .val (.int (0 : Int32))]) rfl ?_
              refine f_aload A248 at_153 (pc' := 155) rfl rfl rfl ?_
              refine f_callS A248 at_155 (pc' := 158) rfl (wd hw 29 rfl) (wd hw 30 rfl) (wd hw 31 rfl) (wd hw 32 rfl) (by decide) pd10 [(.ref b248)] [] rfl rfl rfl 0 (Nat.le_of_eq rfl) (CN.pay (W := 0) A248 (m_fam5 l Z a0 hw b248 t248 c0 c1 c2 c3 c4 zc O2 P5 0 h248 n0 A248.old G248 r0 r1 r2 r3 r4 (by simp [idxL, *])) (wd hw 32 rfl) (wd hw 31 rfl) (by decide) (by decide)) (kc := 0) (ks := 0) (by decide) (by decide) all0 (fun _ => sf0) fun v253 T253 h253 L253 A253 K253 q253 => ?_
              obtain ⟨rfl, hh253⟩ := q253
              obtain rfl := hh253.symm
              show Wp pG e below _ T253 (mkF m 158 _ [(.int (0 : Int32))])
              refine f_iload A253 at_158 (pc' := 160) rfl rfl ?_
              refine f_icN A253 at_160 (teq (by decide : (0 : Int32) = (0 : Int32))).2 (pc' := 163) rfl ?_
              refine f_iconst A253 at_163 (pc' := 164) rfl 1 rfl ?_
              refine f_goto A253 at_164 (pc' := 168) (by decide) (by decide) ?_
              exact f_retBW A253 hEL hlk hret at_168 (by decide) (1 : Int32) (by decide) (by decide) (by decide) Q249 rfl
            · refine f_icY A248 at_126 (feq q4).2 (pc' := 133) (by decide) (by decide) ?_
              refine f_iconst A248 at_133 (pc' := 134) rfl 0 rfl ?_
              refine f_istore A248 at_134 (pc' := 136) rfl (L' := #[.val (.int len), .val (.int x0), .val (.int x1), .val (.int x2), .val (.int x3), .val (.int x4), .val (.int (5 : Int32)), .val (.int c0), .val (.int c1), .val (.int c2), .val (.int c3), .val (.int c4), .val (.ref b248), .val (.int (1 : Int32)), .val (.int (0 : Int32)), .unset]) rfl ?_
              refine f_iload A248 at_136 (pc' := 138) rfl rfl ?_
              refine f_ifY A248 at_138 ((if0 _ _).trans (feq (by decide : ¬ (1 : Int32) = (0 : Int32))).2) (pc' := 150) (by decide) (by decide) ?_
              refine f_iconst A248 at_150 (pc' := 151) rfl 0 rfl ?_
              refine f_istore A248 at_151 (pc' := 153) rfl (L' := #[.val (.int len), .val (.int x0), .val (.int x1), .val (.int x2), .val (.int x3), .val (.int x4), .val (.int (5 : Int32)), .val (.int c0), .val (.int c1), .val (.int c2), .val (.int c3), .val (.int c4), .val (.ref b248), .val (.int (1 : Int32)), .val (.int (0 : Int32)), .val (.int (0 : Int32))]) rfl ?_
              refine f_aload A248 at_153 (pc' := 155) rfl rfl rfl ?_
              refine f_callS A248 at_155 (pc' := 158) rfl (wd hw 29 rfl) (wd hw 30 rfl) (wd hw 31 rfl) (wd hw 32 rfl) (by decide) pd10 [(.ref b248)] [] rfl rfl rfl 0 (Nat.le_of_eq rfl) (CN.pay (W := 0) A248 (m_fam5 l Z a0 hw b248 t248 c0 c1 c2 c3 c4 zc O2 P5 0 h248 n0 A248.old G248 r0 r1 r2 r3 r4 (by simp [idxL, *])) (wd hw 32 rfl) (wd hw 31 rfl) (by decide) (by decide)) (kc := 0) (ks := 0) (by decide) (by decide) all0 (fun _ => sf0) fun v254 T254 h254 L254 A254 K254 q254 => ?_
              obtain ⟨rfl, hh254⟩ := q254
              obtain rfl := hh254.symm
              show Wp pG e below _ T254 (mkF m 158 _ [(.int (0 : Int32))])
              refine f_iload A254 at_158 (pc' := 160) rfl rfl ?_
              refine f_icN A254 at_160 (teq (by decide : (0 : Int32) = (0 : Int32))).2 (pc' := 163) rfl ?_
              refine f_iconst A254 at_163 (pc' := 164) rfl 1 rfl ?_
              refine f_goto A254 at_164 (pc' := 168) (by decide) (by decide) ?_
              exact f_retBW A254 hEL hlk hret at_168 (by decide) (1 : Int32) (by decide) (by decide) (by decide) Q249 rfl
    · refine f_icY A248 at_67 (feq q0).2 (pc' := 74) (by decide) (by decide) ?_
      refine f_iconst A248 at_74 (pc' := 75) rfl 0 rfl ?_
      refine f_istore A248 at_75 (pc' := 77) rfl (L' := #[.val (.int len), .val (.int x0), .val (.int x1), .val (.int x2), .val (.int x3), .val (.int x4), .val (.int (5 : Int32)), .val (.int c0), .val (.int c1), .val (.int c2), .val (.int c3), .val (.int c4), .val (.ref b248), .val (.int (0 : Int32)), .unset, .unset]) rfl ?_
      refine f_iload A248 at_77 (pc' := 79) rfl rfl ?_
      refine f_iconst A248 at_79 (pc' := 80) rfl 1 rfl ?_
      refine f_icN A248 at_80 (tlt (by decide : (1 : Int32) < (5 : Int32))).2.2.2 (pc' := 83) rfl ?_
      refine f_iload A248 at_83 (pc' := 85) rfl rfl ?_
      refine f_bipush A248 at_85 (pc' := 87) rfl 32 rfl ?_
      by_cases q1 : c1 = (32 : Int32)
      · refine f_icY A248 at_87 (teq q1).1 (pc' := 129) (by decide) (by decide) ?_
        refine f_iconst A248 at_129 (pc' := 130) rfl 1 rfl ?_
        refine f_goto A248 at_130 (pc' := 134) (by decide) (by decide) ?_
        refine f_istore A248 at_134 (pc' := 136) rfl (L' := #[.val (.int len), .val (.int x0), .val (.int x1), .val (.int x2), .val (.int x3), .val (.int x4), .val (.int (5 : Int32)), .val (.int c0), .val (.int c1), .val (.int c2), .val (.int c3), .val (.int c4), .val (.ref b248), .val (.int (0 : Int32)), .val (.int (1 : Int32)), .unset]) rfl ?_
        refine f_iload A248 at_136 (pc' := 138) rfl rfl ?_
        refine f_ifN A248 at_138 ((if0 _ _).trans (teq (by decide : (0 : Int32) = (0 : Int32))).2) (pc' := 141) rfl ?_
        refine f_iload A248 at_141 (pc' := 143) rfl rfl ?_
        refine f_ifN A248 at_143 ((if0 _ _).trans (feq (by decide : ¬ (1 : Int32) = (0 : Int32))).1) (pc' := 146) rfl ?_
        refine f_iconst A248 at_146 (pc' := 147) rfl 1 rfl ?_
        refine f_goto A248 at_147 (pc' := 151) (by decide) (by decide) ?_
        refine f_istore A248 at_151 (pc' := 153) rfl (L' := #[.val (.int len), .val (.int x0), .val (.int x1), .val (.int x2), .val (.int x3), .val (.int x4), .val (.int (5 : Int32)), .val (.int c0), .val (.int c1), .val (.int c2), .val (.int c3), .val (.int c4), .val (.ref b248), .val (.int (0 : Int32)), .val (.int (1 : Int32)), .val (.int (1 : Int32))]) rfl ?_
        refine f_aload A248 at_153 (pc' := 155) rfl rfl rfl ?_
        refine f_callS A248 at_155 (pc' := 158) rfl (wd hw 29 rfl) (wd hw 30 rfl) (wd hw 31 rfl) (wd hw 32 rfl) (by decide) pd10 [(.ref b248)] [] rfl rfl rfl 0 (Nat.le_of_eq rfl) (CN.pay (W := 0) A248 (m_fam5 l Z a0 hw b248 t248 c0 c1 c2 c3 c4 zc O2 P5 1 h248 n0 A248.old G248 r0 r1 r2 r3 r4 (by simp [idxL, *])) (wd hw 32 rfl) (wd hw 31 rfl) (by decide) (by decide)) (kc := 0) (ks := 0) (by decide) (by decide) all0 (fun _ => sf0) fun v255 T255 h255 L255 A255 K255 q255 => ?_
        obtain ⟨rfl, hh255⟩ := q255
        obtain rfl := hh255.symm
        show Wp pG e below _ T255 (mkF m 158 _ [(.int (1 : Int32))])
        refine f_iload A255 at_158 (pc' := 160) rfl rfl ?_
        refine f_icN A255 at_160 (teq (by decide : (1 : Int32) = (1 : Int32))).2 (pc' := 163) rfl ?_
        refine f_iconst A255 at_163 (pc' := 164) rfl 1 rfl ?_
        refine f_goto A255 at_164 (pc' := 168) (by decide) (by decide) ?_
        exact f_retBW A255 hEL hlk hret at_168 (by decide) (1 : Int32) (by decide) (by decide) (by decide) Q249 rfl
      · refine f_icN A248 at_87 (feq q1).1 (pc' := 90) rfl ?_
        refine f_iload A248 at_90 (pc' := 92) rfl rfl ?_
        refine f_iconst A248 at_92 (pc' := 93) rfl 2 rfl ?_
        refine f_icN A248 at_93 (tlt (by decide : (2 : Int32) < (5 : Int32))).2.2.2 (pc' := 96) rfl ?_
        refine f_iload A248 at_96 (pc' := 98) rfl rfl ?_
        refine f_bipush A248 at_98 (pc' := 100) rfl 32 rfl ?_
        by_cases q2 : c2 = (32 : Int32)
        · refine f_icY A248 at_100 (teq q2).1 (pc' := 129) (by decide) (by decide) ?_
          refine f_iconst A248 at_129 (pc' := 130) rfl 1 rfl ?_
          refine f_goto A248 at_130 (pc' := 134) (by decide) (by decide) ?_
          refine f_istore A248 at_134 (pc' := 136) rfl (L' := #[.val (.int len), .val (.int x0), .val (.int x1), .val (.int x2), .val (.int x3), .val (.int x4), .val (.int (5 : Int32)), .val (.int c0), .val (.int c1), .val (.int c2), .val (.int c3), .val (.int c4), .val (.ref b248), .val (.int (0 : Int32)), .val (.int (1 : Int32)), .unset]) rfl ?_
          refine f_iload A248 at_136 (pc' := 138) rfl rfl ?_
          refine f_ifN A248 at_138 ((if0 _ _).trans (teq (by decide : (0 : Int32) = (0 : Int32))).2) (pc' := 141) rfl ?_
          refine f_iload A248 at_141 (pc' := 143) rfl rfl ?_
          refine f_ifN A248 at_143 ((if0 _ _).trans (feq (by decide : ¬ (1 : Int32) = (0 : Int32))).1) (pc' := 146) rfl ?_
          refine f_iconst A248 at_146 (pc' := 147) rfl 1 rfl ?_
          refine f_goto A248 at_147 (pc' := 151) (by decide) (by decide) ?_
          refine f_istore A248 at_151 (pc' := 153) rfl (L' := #[.val (.int len), .val (.int x0), .val (.int x1), .val (.int x2), .val (.int x3), .val (.int x4), .val (.int (5 : Int32)), .val (.int c0), .val (.int c1), .val (.int c2), .val (.int c3), .val (.int c4), .val (.ref b248), .val (.int (0 : Int32)), .val (.int (1 : Int32)), .val (.int (1 : Int32))]) rfl ?_
          refine f_aload A248 at_153 (pc' := 155) rfl rfl rfl ?_
          refine f_callS A248 at_155 (pc' := 158) rfl (wd hw 29 rfl) (wd hw 30 rfl) (wd hw 31 rfl) (wd hw 32 rfl) (by decide) pd10 [(.ref b248)] [] rfl rfl rfl 0 (Nat.le_of_eq rfl) (CN.pay (W := 0) A248 (m_fam5 l Z a0 hw b248 t248 c0 c1 c2 c3 c4 zc O2 P5 1 h248 n0 A248.old G248 r0 r1 r2 r3 r4 (by simp [idxL, *])) (wd hw 32 rfl) (wd hw 31 rfl) (by decide) (by decide)) (kc := 0) (ks := 0) (by decide) (by decide) all0 (fun _ => sf0) fun v256 T256 h256 L256 A256 K256 q256 => ?_
          obtain ⟨rfl, hh256⟩ := q256
          obtain rfl := hh256.symm
          show Wp pG e below _ T256 (mkF m 158 _ [(.int (1 : Int32))])
          refine f_iload A256 at_158 (pc' := 160) rfl rfl ?_
          refine f_icN A256 at_160 (teq (by decide : (1 : Int32) = (1 : Int32))).2 (pc' := 163) rfl ?_
          refine f_iconst A256 at_163 (pc' := 164) rfl 1 rfl ?_
          refine f_goto A256 at_164 (pc' := 168) (by decide) (by decide) ?_
          exact f_retBW A256 hEL hlk hret at_168 (by decide) (1 : Int32) (by decide) (by decide) (by decide) Q249 rfl
        · refine f_icN A248 at_100 (feq q2).1 (pc' := 103) rfl ?_
          refine f_iload A248 at_103 (pc' := 105) rfl rfl ?_
          refine f_iconst A248 at_105 (pc' := 106) rfl 3 rfl ?_
          refine f_icN A248 at_106 (tlt (by decide : (3 : Int32) < (5 : Int32))).2.2.2 (pc' := 109) rfl ?_
          refine f_iload A248 at_109 (pc' := 111) rfl rfl ?_
          refine f_bipush A248 at_111 (pc' := 113) rfl 32 rfl ?_
          by_cases q3 : c3 = (32 : Int32)
          · refine f_icY A248 at_113 (teq q3).1 (pc' := 129) (by decide) (by decide) ?_
            refine f_iconst A248 at_129 (pc' := 130) rfl 1 rfl ?_
            refine f_goto A248 at_130 (pc' := 134) (by decide) (by decide) ?_
            refine f_istore A248 at_134 (pc' := 136) rfl (L' := #[.val (.int len), .val (.int x0), .val (.int x1), .val (.int x2), .val (.int x3), .val (.int x4), .val (.int (5 : Int32)), .val (.int c0), .val (.int c1), .val (.int c2), .val (.int c3), .val (.int c4), .val (.ref b248), .val (.int (0 : Int32)), .val (.int (1 : Int32)), .unset]) rfl ?_
            refine f_iload A248 at_136 (pc' := 138) rfl rfl ?_
            refine f_ifN A248 at_138 ((if0 _ _).trans (teq (by decide : (0 : Int32) = (0 : Int32))).2) (pc' := 141) rfl ?_
            refine f_iload A248 at_141 (pc' := 143) rfl rfl ?_
            refine f_ifN A248 at_143 ((if0 _ _).trans (feq (by decide : ¬ (1 : Int32) = (0 : Int32))).1) (pc' := 146) rfl ?_
            refine f_iconst A248 at_146 (pc' := 147) rfl 1 rfl ?_
            refine f_goto A248 at_147 (pc' := 151) (by decide) (by decide) ?_
            refine f_istore A248 at_151 (pc' := 153) rfl (L' := #[.val (.int len), .val (.int x0), .val (.int x1), .val (.int x2), .val (.int x3), .val (.int x4), .val (.int (5 : Int32)), .val (.int c0), .val (.int c1), .val (.int c2), .val (.int c3), .val (.int c4), .val (.ref b248), .val (.int (0 : Int32)), .val (.int (1 : Int32)), .val (.int (1 : Int32))]) rfl ?_
            refine f_aload A248 at_153 (pc' := 155) rfl rfl rfl ?_
            refine f_callS A248 at_155 (pc' := 158) rfl (wd hw 29 rfl) (wd hw 30 rfl) (wd hw 31 rfl) (wd hw 32 rfl) (by decide) pd10 [(.ref b248)] [] rfl rfl rfl 0 (Nat.le_of_eq rfl) (CN.pay (W := 0) A248 (m_fam5 l Z a0 hw b248 t248 c0 c1 c2 c3 c4 zc O2 P5 1 h248 n0 A248.old G248 r0 r1 r2 r3 r4 (by simp [idxL, *])) (wd hw 32 rfl) (wd hw 31 rfl) (by decide) (by decide)) (kc := 0) (ks := 0) (by decide) (by decide) all0 (fun _ => sf0) fun v257 T257 h257 L257 A257 K257 q257 => ?_
            obtain ⟨rfl, hh257⟩ := q257
            obtain rfl := hh257.symm
            show Wp pG e below _ T257 (mkF m 158 _ [(.int (1 : Int32))])
            refine f_iload A257 at_158 (pc' := 160) rfl rfl ?_
            refine f_icN A257 at_160 (teq (by decide : (1 : Int32) = (1 : Int32))).2 (pc' := 163) rfl ?_
            refine f_iconst A257 at_163 (pc' := 164) rfl 1 rfl ?_
            refine f_goto A257 at_164 (pc' := 168) (by decide) (by decide) ?_
            exact f_retBW A257 hEL hlk hret at_168 (by decide) (1 : Int32) (by decide) (by decide) (by decide) Q249 rfl
          · refine f_icN A248 at_113 (feq q3).1 (pc' := 116) rfl ?_
            refine f_iload A248 at_116 (pc' := 118) rfl rfl ?_
            refine f_iconst A248 at_118 (pc' := 119) rfl 4 rfl ?_
            refine f_icN A248 at_119 (tlt (by decide : (4 : Int32) < (5 : Int32))).2.2.2 (pc' := 122) rfl ?_
            refine f_iload A248 at_122 (pc' := 124) rfl rfl ?_
            refine f_bipush A248 at_124 (pc' := 126) rfl 32 rfl ?_
            by_cases q4 : c4 = (32 : Int32)
            · refine f_icN A248 at_126 (teq q4).2 (pc' := 129) rfl ?_
              refine f_iconst A248 at_129 (pc' := 130) rfl 1 rfl ?_
              refine f_goto A248 at_130 (pc' := 134) (by decide) (by decide) ?_
              refine f_istore A248 at_134 (pc' := 136) rfl (L' := #[.val (.int len), .val (.int x0), .val (.int x1), .val (.int x2), .val (.int x3), .val (.int x4), .val (.int (5 : Int32)), .val (.int c0), .val (.int c1), .val (.int c2), .val (.int c3), .val (.int c4), .val (.ref b248), .val (.int (0 : Int32)), .val (.int (1 : Int32)), .unset]) rfl ?_
              refine f_iload A248 at_136 (pc' := 138) rfl rfl ?_
              refine f_ifN A248 at_138 ((if0 _ _).trans (teq (by decide : (0 : Int32) = (0 : Int32))).2) (pc' := 141) rfl ?_
              refine f_iload A248 at_141 (pc' := 143) rfl rfl ?_
              refine f_ifN A248 at_143 ((if0 _ _).trans (feq (by decide : ¬ (1 : Int32) = (0 : Int32))).1) (pc' := 146) rfl ?_
              refine f_iconst A248 at_146 (pc' := 147) rfl 1 rfl ?_
              refine f_goto A248 at_147 (pc' := 151) (by decide) (by decide) ?_
              refine f_istore A248 at_151 (pc' := 153) rfl (L' := #[.val (.int len), .val (.int x0), .val (.int x1), .val (.int x2), .val (.int x3), .val (.int x4), .val (.int (5 : Int32)), .val (.int c0), .val (.int c1), .val (.int c2), .val (.int c3), .val (.int c4), .val (.ref b248), .val (.int (0 : Int32)), .val (.int (1 : Int32)), .val (.int (1 : Int32))]) rfl ?_
              refine f_aload A248 at_153 (pc' := 155) rfl rfl rfl ?_
              refine f_callS A248 at_155 (pc' := 158) rfl (wd hw 29 rfl) (wd hw 30 rfl) (wd hw 31 rfl) (wd hw 32 rfl) (by decide) pd10 [(.ref b248)] [] rfl rfl rfl 0 (Nat.le_of_eq rfl) (CN.pay (W := 0) A248 (m_fam5 l Z a0 hw b248 t248 c0 c1 c2 c3 c4 zc O2 P5 1 h248 n0 A248.old G248 r0 r1 r2 r3 r4 (by simp [idxL, *])) (wd hw 32 rfl) (wd hw 31 rfl) (by decide) (by decide)) (kc := 0) (ks := 0) (by decide) (by decide) all0 (fun _ => sf0) fun v258 T258 h258 L258 A258 K258 q258 => ?_
              obtain ⟨rfl, hh258⟩ := q258
              obtain rfl := hh258.symm
              show Wp pG e below _ T258 (mkF m 158 _ [(.int (1 : Int32))])
              refine f_iload A258 at_158 (pc' := 160) rfl rfl ?_
              refine f_icN A258 at_160 (teq (by decide : (1 : Int32) = (1 : Int32))).2 (pc' := 163) rfl ?_
              refine f_iconst A258 at_163 (pc' := 164) rfl 1 rfl ?_
              refine f_goto A258 at_164 (pc' := 168) (by decide) (by decide) ?_
              exact f_retBW A258 hEL hlk hret at_168 (by decide) (1 : Int32) (by decide) (by decide) (by decide) Q249 rfl
            · refine f_icY A248 at_126 (feq q4).2 (pc' := 133) (by decide) (by decide) ?_
              refine f_iconst A248 at_133 (pc' := 134) rfl 0 rfl ?_
              refine f_istore A248 at_134 (pc' := 136) rfl (L' := #[.val (.int len), .val (.int x0), .val (.int x1), .val (.int x2), .val (.int x3), .val (.int x4), .val (.int (5 : Int32)), .val (.int c0), .val (.int c1), .val (.int c2), .val (.int c3), .val (.int c4), .val (.ref b248), .val (.int (0 : Int32)), .val (.int (0 : Int32)), .unset]) rfl ?_
              refine f_iload A248 at_136 (pc' := 138) rfl rfl ?_
              refine f_ifN A248 at_138 ((if0 _ _).trans (teq (by decide : (0 : Int32) = (0 : Int32))).2) (pc' := 141) rfl ?_
              refine f_iload A248 at_141 (pc' := 143) rfl rfl ?_
              refine f_ifY A248 at_143 ((if0 _ _).trans (teq (by decide : (0 : Int32) = (0 : Int32))).1) (pc' := 150) (by decide) (by decide) ?_
              refine f_iconst A248 at_150 (pc' := 151) rfl 0 rfl ?_
              refine f_istore A248 at_151 (pc' := 153) rfl (L' := #[.val (.int len), .val (.int x0), .val (.int x1), .val (.int x2), .val (.int x3), .val (.int x4), .val (.int (5 : Int32)), .val (.int c0), .val (.int c1), .val (.int c2), .val (.int c3), .val (.int c4), .val (.ref b248), .val (.int (0 : Int32)), .val (.int (0 : Int32)), .val (.int (0 : Int32))]) rfl ?_
              refine f_aload A248 at_153 (pc' := 155) rfl rfl rfl ?_
              refine f_callS A248 at_155 (pc' := 158) rfl (wd hw 29 rfl) (wd hw 30 rfl) (wd hw 31 rfl) (wd hw 32 rfl) (by decide) pd10 [(.ref b248)] [] rfl rfl rfl 0 (Nat.le_of_eq rfl) (CN.pay (W := 0) A248 (m_fam5 l Z a0 hw b248 t248 c0 c1 c2 c3 c4 zc O2 P5 0 h248 n0 A248.old G248 r0 r1 r2 r3 r4 (by simp [idxL, *])) (wd hw 32 rfl) (wd hw 31 rfl) (by decide) (by decide)) (kc := 0) (ks := 0) (by decide) (by decide) all0 (fun _ => sf0) fun v259 T259 h259 L259 A259 K259 q259 => ?_
              obtain ⟨rfl, hh259⟩ := q259
              obtain rfl := hh259.symm
              show Wp pG e below _ T259 (mkF m 158 _ [(.int (0 : Int32))])
              refine f_iload A259 at_158 (pc' := 160) rfl rfl ?_
              refine f_icN A259 at_160 (teq (by decide : (0 : Int32) = (0 : Int32))).2 (pc' := 163) rfl ?_
              refine f_iconst A259 at_163 (pc' := 164) rfl 1 rfl ?_
              refine f_goto A259 at_164 (pc' := 168) (by decide) (by decide) ?_
              exact f_retBW A259 hEL hlk hret at_168 (by decide) (1 : Int32) (by decide) (by decide) (by decide) Q249 rfl
set_option maxRecDepth 65536 in
set_option maxHeartbeats 40000000 in
theorem comes_1 {Post : Tables → Env → Array Value → State → Outcome → State → Prop} (hpost : ∀ tb e args s v u, (limb_1_1.after args s (.returned v) u = true ∧ limb_1_2.after args s (.returned v) u = true ∧ True) → ReturnedEndW s (.returned v) u (Jvm.fieldLocs frame_1_writes args s ++ Jvm.arrayLocs frame_1_arrays args s ++ Jvm.staticLocs frame_1_statics s) 16 1152 → Post tb e args s (.returned v) u) :
    ArmFor flags0 classFile x code maxLocals ret World_1 tables_1 room_1 Calls_1 rest_1 Pre_1 Post := by
  intro l hfl _ _ p e ha hc hk s m args below hf hA hF happ hP
  obtain ⟨hcalls, hrest, hpre⟩ := hP
  obtain ⟨-, -, -, hnamed, -, -, -, hat⟩ := (Spec.applies_iff hf).mp happ
  obtain ⟨hg, hn⟩ := and_e (Cond.before_iff.mp (show (Jvm.Cond.and given_1 narrow_1).before args s = true from hpre))
  obtain ⟨gc, g0⟩ := and_e hg
  obtain ⟨b0, g1⟩ := and_e g0
  obtain ⟨b1, g2⟩ := and_e g1
  obtain ⟨b2, g3⟩ := and_e g2
  obtain ⟨b3, g4⟩ := and_e g3
  obtain ⟨b4, g5⟩ := and_e g4
  obtain ⟨w0, w1, w2, w3, w4, w5, rfl⟩ : ∃ w0 w1 w2 w3 w4 w5 : Value, args = #[w0, w1, w2, w3, w4, w5] := by
    have hs : args.size = 6 := by simpa [Cond.value, given_1] using gc
    obtain ⟨L⟩ := args
    match L, hs with
    | [w0, w1, w2, w3, w4, w5], _ => exact ⟨w0, w1, w2, w3, w4, w5, rfl⟩
  have hw := fun d (hd : d ∈ tables_1) => atoms_spec (ws := Jvm.Cond.code x code maxLocals ret :: tables_1) hat d (List.mem_cons_of_mem _ hd)
  obtain ⟨hsets, hown0⟩ := atoms_of _ (rest_1_c_eq ▸ (show rest_1_c.before _ s = true from hrest))
  obtain ⟨i0, ei0⟩ := is_v b0
  obtain rfl : w0 = (.int i0) := Option.some.inj ei0
  obtain ⟨i1, ei1⟩ := is_v b1
  obtain rfl : w1 = (.int i1) := Option.some.inj ei1
  obtain ⟨i2, ei2⟩ := is_v b2
  obtain rfl : w2 = (.int i2) := Option.some.inj ei2
  obtain ⟨i3, ei3⟩ := is_v b3
  obtain rfl : w3 = (.int i3) := Option.some.inj ei3
  obtain ⟨i4, ei4⟩ := is_v b4
  obtain rfl : w4 = (.int i4) := Option.some.inj ei4
  obtain ⟨i5, ei5⟩ := is_v g5
  obtain rfl : w5 = (.int i5) := Option.some.inj ei5
  obtain ⟨zc, ezc⟩ := is_v (Cond.before_iff.mp (hsets _ (List.mem_of_getElem? (i := 1) rfl)))
  have O2 : Sta s s.heap "java/lang/String" "COMPACT_STRINGS" "Z" (.int zc) := Sta.start ezc (Or.inl (hsets _ (List.mem_of_getElem? (i := 0) rfl)))
  have P5 : ¬ zc = 0 := gotF (Cond.eq_ints ezc (Term.int_eval (0))) (not_v (Cond.before_iff.mp (hsets _ (List.mem_of_getElem? (i := 2) rfl))))
  have hEL : EW s #[.int i0, .int i1, .int i2, .int i3, .int i4, .int i5] ELs := (EW.cons (wd hw 21 rfl) (by decide) EW.nil)
  have hCH : CHv s ELs s.vm s.heap := CHv.start hEL (fun p hp => hcalls.1 p ((by decide : ∀ p ∈ ELs, p ∈ consts_1) p hp)) (a0 := #[.int i0, .int i1, .int i2, .int i3, .int i4, .int i5]) (hsets _ (List.mem_of_getElem? (i := 2) rfl)) (wd hw 22 rfl) (wd hw 8 rfl)
  obtain ⟨n, o, h1, h2, h3, v, L, rfl, ⟨N, -, hv⟩, hC, hq⟩ := m_law l s _ hw tables_1 i0 i1 i2 i3 i4 i5 zc O2 P5 s.heap s.heap.size (Old.start s) hEL  p e ha hc hk s m _ below hf ((Spec.applies_iff_loose hf).mp happ).1 ⟨rfl, State.Warmed39.refl s, rfl, hCH, fun _ q => nomatch q⟩ trivial
  obtain rfl := hv
  refine ⟨n, _, h1, h2, h3, hpost _ _ _ _ _ _ ⟨Cond.after_iff.mpr rfl, Cond.after_iff.mpr (eq_i res_at (Term.int_eval (1)) rfl), trivial⟩ ⟨hq.1, hq.2.1, hq.2.2.1, (hq.2.2.2.sift fun y hy => Or.inr (N y hy)).mono (by decide) (by decide)⟩⟩
theorem main_1_1 : Claimed_1_1 := comes_1 fun _ _ _ _ _ _ h hF => ⟨h.1, hF⟩
theorem main_1_2 : Claimed_1_2 := comes_1 fun _ _ _ _ _ _ h hF => ⟨h.2.1, hF⟩
end Jvm.Pilot.@@N@@
namespace Jvm.Pilot.@@N@@
open Jvm Jvm.ClassFile Sem Op Lib Jvm.Free Jvm.Stand Jvm.Pilot.@@N@@.Jvm.D
/-! MADE BY PROGRAM (witnessworld.py) out of the Statement's table words and the real class files: 21 classes; the members and pool entries that the words name. The judged class is class 1, her method 3. -/
namespace start1
open Jvm.ClassFile
def u (s : String) : CpInfo := .utf8 (stringToUtf16 s)
/-- a pool by its gaps: so many unusable entries, then the entry; so many at the end -/
def gap : Nat → List CpInfo → List CpInfo
  | 0, r => r
  | n + 1, r => .unusable :: gap n r
def poolList (es : List (Nat × CpInfo)) (last : Nat) : List CpInfo := es.foldr (fun e r => gap e.1 (e.2 :: r)) (gap last [])
def pool (es : List (Nat × CpInfo)) (last : Nat) : Array CpInfo := ⟨poolList es last⟩
def fileOf (pool : Array CpInfo) (this : Nat) (attrs : Array Attribute := #[]) (ms : Array MethodInfo := #[]) (fl : Nat := 33) (sup : Nat := 0) (ifs : Array Nat := #[]) (fds : Array FieldInfo := #[]) : ClassFile where
  minorVersion := 0
  majorVersion := 65
  constantPool := pool
  accessFlags := fl
  thisClass := this
  superClass := sup
  interfaces := ifs
  fields := fds
  methods := ms
  attributes := attrs
def plain (name : String) (sup : Option ClassId) : Class where
  name := name
  kind := .ordinary
  loader := none
  accessFlags := 33
  super := sup
  interfaces := #[]
  cf := none
  fields := #[]
  methods := #[]
  instanceTypes := #[]
  staticTypes := #[]
  resolved := #[]
  callSites := []
  init := .initialized
  statics := none
  mirror := none

def pool0 : Array CpInfo := pool [(5, u "<init>"), (0, u "()V"), (1, .class_ 10), (1, u "java/lang/Object")] 113

def k0c0 : Code := { maxStack := 0, maxLocals := 1, code := object_method_1_code, exceptionTable := #[], attributes := #[] }
def k0m0 : Method := { name := "<init>", desc := "()V", sig := { parameters := [], returnType := none }, accessFlags := 1, code := some k0c0 }
/-- java/lang/Object -/
def k0 : Class := { plain "java/lang/Object" none with
  accessFlags := 33
  interfaces := #[]
  cf := some (fileOf pool0 8 #[] #[{ accessFlags := 1, nameIndex := 5, descriptorIndex := 6, attributes := #[] }] 33 0 #[] #[])
  fields := #[]
  methods := #[k0m0]
  instanceTypes := #[]
  staticTypes := #[]
  resolved := Array.replicate 124 none
  statics := none }

def pool1 : Array CpInfo := pool [(2, .class_ 4), (1, u "java/lang/Object"), (0, u "<init>"), (0, u "()V"), (0, .class_ 8), (0, u "java/lang/String"), (0, .methodref 7 10), (0, .nameAndType 5 11), (0, u "([C)V"), (0, .methodref 13 14), (0, .class_ 15), (0, .nameAndType 16 17), (0, u "com/example/confinement/confinement/monitor/SitesIsFamilyPinLaw"), (0, u "pick"), (0, u "(I)C"), (0, .methodref 13 19), (0, .nameAndType 20 21), (0, u "make"), (0, u "(ICCCCC)Ljava/lang/String;"), (0, .methodref 23 24), (0, .class_ 25), (0, .nameAndType 26 27), (0, u "com/example/confinement/confinement/monitor/Sites"), (0, u "isFamily"), (0, u "(Ljava/lang/String;)Z"), (3, u "law"), (0, u "(IIIIII)Z")] 2

def k1m0 : Method := { name := "<init>", desc := "()V", sig := { parameters := [], returnType := none }, accessFlags := 2, code := none }
def k1c1 : Code := { maxStack := 2, maxLocals := 1, code := method_2_code, exceptionTable := #[], attributes := #[] }
def k1m1 : Method := { name := "pick", desc := "(I)C", sig := { parameters := [.int], returnType := some .char }, accessFlags := 10, code := some k1c1 }
def k1c2 : Code := { maxStack := 6, maxLocals := 6, code := method_3_code, exceptionTable := #[], attributes := #[] }
def k1m2 : Method := { name := "make", desc := "(ICCCCC)Ljava/lang/String;", sig := { parameters := [.int, .char, .char, .char, .char, .char], returnType := some (.object "java/lang/String") }, accessFlags := 10, code := some k1c2 }
def k1c3 : Code := { maxStack := 6, maxLocals := 16, code := code, exceptionTable := #[], attributes := #[] }
def k1m3 : Method := { name := "law", desc := "(IIIIII)Z", sig := { parameters := [.int, .int, .int, .int, .int, .int], returnType := some .boolean }, accessFlags := 9, code := some k1c3 }
/-- com/example/confinement/confinement/monitor/SitesIsFamilyPinLaw -/
def k1 : Class := { plain "com/example/confinement/confinement/monitor/SitesIsFamilyPinLaw" (some 0) with
  accessFlags := 49
  interfaces := #[]
  cf := some (fileOf pool1 13 #[] #[{ accessFlags := 2, nameIndex := 5, descriptorIndex := 6, attributes := #[] }, { accessFlags := 10, nameIndex := 16, descriptorIndex := 17, attributes := #[] }, { accessFlags := 10, nameIndex := 20, descriptorIndex := 21, attributes := #[] }, { accessFlags := 9, nameIndex := 31, descriptorIndex := 32, attributes := #[] }] 49 2 #[] #[])
  fields := #[]
  methods := #[k1m0, k1m1, k1m2, k1m3]
  instanceTypes := #[]
  staticTypes := #[]
  resolved := Array.replicate 35 none
  statics := none }

def pool2 : Array CpInfo := pool [(1, .class_ 2), (0, u "java/io/Serializable"), (0, .class_ 4), (0, u "java/lang/Object")] 2

/-- java/io/Serializable -/
def k2 : Class := { plain "java/io/Serializable" (some 0) with
  accessFlags := 1537
  interfaces := #[]
  cf := some (fileOf pool2 1 #[] #[] 1537 3 #[] #[])
  fields := #[]
  methods := #[]
  instanceTypes := #[]
  staticTypes := #[]
  resolved := Array.replicate 7 none
  statics := none }

def pool3 : Array CpInfo := pool [(1, .class_ 2), (0, u "java/lang/Comparable"), (0, .class_ 4), (0, u "java/lang/Object")] 7

/-- java/lang/Comparable -/
def k3 : Class := { plain "java/lang/Comparable" (some 0) with
  accessFlags := 1537
  interfaces := #[]
  cf := some (fileOf pool3 1 #[] #[] 1537 3 #[] #[])
  fields := #[]
  methods := #[]
  instanceTypes := #[]
  staticTypes := #[]
  resolved := Array.replicate 12 none
  statics := none }

def pool4 : Array CpInfo := pool [(2, .class_ 4), (1, u "java/lang/CharSequence"), (42, .class_ 48), (0, u "java/lang/CharSequence$1CodePointIterator"), (10, .class_ 60), (0, u "java/lang/CharSequence$1CharIterator"), (5, .class_ 67), (0, u "java/lang/Object")] 63

/-- java/lang/CharSequence -/
def k4 : Class := { plain "java/lang/CharSequence" (some 0) with
  accessFlags := 1537
  interfaces := #[]
  cf := some (fileOf pool4 2 #[.nestMembers #[47, 59]] #[] 1537 66 #[] #[])
  fields := #[]
  methods := #[]
  instanceTypes := #[]
  staticTypes := #[]
  resolved := Array.replicate 131 none
  statics := none }

def pool5 : Array CpInfo := pool [(1, .class_ 2), (0, u "java/lang/constant/Constable"), (0, .class_ 4), (0, u "java/lang/Object")] 6

/-- java/lang/constant/Constable -/
def k5 : Class := { plain "java/lang/constant/Constable" (some 0) with
  accessFlags := 1537
  interfaces := #[]
  cf := some (fileOf pool5 1 #[] #[] 1537 3 #[] #[])
  fields := #[]
  methods := #[]
  instanceTypes := #[]
  staticTypes := #[]
  resolved := Array.replicate 11 none
  statics := none }

def pool6 : Array CpInfo := pool [(1, .class_ 2), (0, u "java/lang/constant/ConstantDesc"), (0, .class_ 4), (0, u "java/lang/Object")] 32

/-- java/lang/constant/ConstantDesc -/
def k6 : Class := { plain "java/lang/constant/ConstantDesc" (some 0) with
  accessFlags := 1537
  interfaces := #[]
  cf := some (fileOf pool6 1 #[] #[] 1537 3 #[] #[])
  fields := #[]
  methods := #[]
  instanceTypes := #[]
  staticTypes := #[]
  resolved := Array.replicate 37 none
  statics := none }

def pool7 : Array CpInfo := pool [(1, .methodref 2 3), (0, .class_ 4), (0, .nameAndType 5 6), (0, u "java/lang/Object"), (0, u "<init>"), (0, u "()V"), (0, .string 8), (0, u ""), (0, .fieldref 10 11), (0, .class_ 12), (0, .nameAndType 13 14), (0, u "java/lang/String"), (0, u "value"), (0, u "[B"), (0, .fieldref 10 16), (0, .nameAndType 17 18), (0, u "coder"), (0, u "B"), (2, u "hash"), (0, u "I"), (2, u "hashIsZero"), (0, u "Z"), (0, .methodref 10 28), (0, .nameAndType 5 29), (0, u "([CIILjava/lang/Void;)V"), (8, .fieldref 10 39), (0, .nameAndType 40 26), (0, u "COMPACT_STRINGS"), (1, .class_ 44), (1, u "java/lang/StringUTF16"), (0, u "compress"), (1, .methodref 42 48), (0, .nameAndType 49 50), (0, u "coderFromArrayLen"), (0, u "([BI)B"), (56, .class_ 109), (1, u "java/lang/StringLatin1"), (32, u "()Z"), (34, .methodref 42 178), (0, .nameAndType 45 179), (0, u "([CII)[B"), (154, u "()I"), (0, .methodref 10 336), (0, .nameAndType 17 337), (0, u "()B"), (154, .methodref 10 493), (0, .nameAndType 494 142), (0, u "isLatin1"), (10, .methodref 10 506), (0, .nameAndType 507 334), (0, u "length"), (67, .class_ 576), (0, u "java/lang/CharSequence"), (22, u "CASE_INSENSITIVE_ORDER"), (0, u "Ljava/util/Comparator;"), (32, .methodref 10 634), (0, .nameAndType 635 636), (0, u "indexOf"), (0, u "(II)I"), (0, .methodref 107 638), (0, .nameAndType 635 639), (0, u "([BIII)I"), (125, u "(I)I"), (244, u "([C)V"), (90, u "serialPersistentFields"), (0, u "[Ljava/io/ObjectStreamField;"), (0, .class_ 1104), (0, u "java/lang/String$CaseInsensitiveComparator"), (1, .class_ 1107), (0, u "java/io/Serializable"), (0, .class_ 1109), (0, u "java/lang/Comparable"), (0, .class_ 1111), (0, u "java/lang/constant/Constable"), (0, .class_ 1113), (0, u "java/lang/constant/ConstantDesc"), (2, u "serialVersionUID"), (0, u "J"), (3, u "REPL"), (0, u "C"), (2, u "LATIN1"), (1, u "UTF16")] 323

def k7m0 : Method := { name := "<init>", desc := "()V", sig := { parameters := [], returnType := none }, accessFlags := 1, code := none }
def k7c1 : Code := { maxStack := 5, maxLocals := 2, code := jdk_42_method_3_code, exceptionTable := #[], attributes := #[] }
def k7m1 : Method := { name := "<init>", desc := "([C)V", sig := { parameters := [(.array .char)], returnType := none }, accessFlags := 1, code := some k7c1 }
def k7c2 : Code := { maxStack := 2, maxLocals := 1, code := jdk_42_method_54_code, exceptionTable := #[], attributes := #[] }
def k7m2 : Method := { name := "length", desc := "()I", sig := { parameters := [], returnType := some .int }, accessFlags := 1, code := some k7c2 }
def k7c3 : Code := { maxStack := 3, maxLocals := 2, code := jdk_42_method_79_code, exceptionTable := #[], attributes := #[] }
def k7m3 : Method := { name := "indexOf", desc := "(I)I", sig := { parameters := [.int], returnType := some .int }, accessFlags := 1, code := some k7c3 }
def k7c4 : Code := { maxStack := 4, maxLocals := 3, code := jdk_42_method_80_code, exceptionTable := #[], attributes := #[] }
def k7m4 : Method := { name := "indexOf", desc := "(II)I", sig := { parameters := [.int, .int], returnType := some .int }, accessFlags := 1, code := some k7c4 }
def k7c5 : Code := { maxStack := 4, maxLocals := 6, code := jdk_42_method_149_code, exceptionTable := #[], attributes := #[] }
def k7m5 : Method := { name := "<init>", desc := "([CIILjava/lang/Void;)V", sig := { parameters := [(.array .char), .int, .int, (.object "java/lang/Void")], returnType := none }, accessFlags := 2, code := some k7c5 }
def k7c6 : Code := { maxStack := 1, maxLocals := 1, code := jdk_42_method_152_code, exceptionTable := #[], attributes := #[] }
def k7m6 : Method := { name := "coder", desc := "()B", sig := { parameters := [], returnType := some .byte }, accessFlags := 0, code := some k7c6 }
def k7c7 : Code := { maxStack := 1, maxLocals := 1, code := jdk_42_method_154_code, exceptionTable := #[], attributes := #[] }
def k7m7 : Method := { name := "isLatin1", desc := "()Z", sig := { parameters := [], returnType := some .boolean }, accessFlags := 0, code := some k7c7 }
/-- java/lang/String -/
def k7 : Class := { plain "java/lang/String" (some 0) with
  accessFlags := 49
  interfaces := #[2, 3, 4, 5, 6]
  cf := some (fileOf pool7 10 #[.nestMembers #[1103]] #[{ accessFlags := 1, nameIndex := 5, descriptorIndex := 6, attributes := #[] }, { accessFlags := 1, nameIndex := 5, descriptorIndex := 1010, attributes := #[] }, { accessFlags := 1, nameIndex := 507, descriptorIndex := 334, attributes := #[] }, { accessFlags := 1, nameIndex := 635, descriptorIndex := 765, attributes := #[] }, { accessFlags := 1, nameIndex := 635, descriptorIndex := 636, attributes := #[] }, { accessFlags := 2, nameIndex := 5, descriptorIndex := 29, attributes := #[] }, { accessFlags := 0, nameIndex := 17, descriptorIndex := 337, attributes := #[] }, { accessFlags := 0, nameIndex := 494, descriptorIndex := 142, attributes := #[] }] 49 2 #[1106, 1108, 575, 1110, 1112] #[{ accessFlags := 18, nameIndex := 13, descriptorIndex := 14, attributes := #[] }, { accessFlags := 18, nameIndex := 17, descriptorIndex := 18, attributes := #[] }, { accessFlags := 2, nameIndex := 21, descriptorIndex := 22, attributes := #[] }, { accessFlags := 2, nameIndex := 25, descriptorIndex := 26, attributes := #[] }, { accessFlags := 26, nameIndex := 1116, descriptorIndex := 1117, attributes := #[] }, { accessFlags := 24, nameIndex := 40, descriptorIndex := 26, attributes := #[] }, { accessFlags := 26, nameIndex := 1101, descriptorIndex := 1102, attributes := #[] }, { accessFlags := 26, nameIndex := 1121, descriptorIndex := 1122, attributes := #[] }, { accessFlags := 25, nameIndex := 599, descriptorIndex := 600, attributes := #[] }, { accessFlags := 24, nameIndex := 1125, descriptorIndex := 18, attributes := #[] }, { accessFlags := 24, nameIndex := 1127, descriptorIndex := 18, attributes := #[] }])
  fields := #[{ name := "value", type := (.array .byte), accessFlags := 18, slot := 0, constantValue := 0 }, { name := "coder", type := .byte, accessFlags := 18, slot := 1, constantValue := 0 }, { name := "hash", type := .int, accessFlags := 2, slot := 2, constantValue := 0 }, { name := "hashIsZero", type := .boolean, accessFlags := 2, slot := 3, constantValue := 0 }, { name := "serialVersionUID", type := .long, accessFlags := 26, slot := 0, constantValue := 0 }, { name := "COMPACT_STRINGS", type := .boolean, accessFlags := 24, slot := 1, constantValue := 0 }, { name := "serialPersistentFields", type := (.array (.object "java/io/ObjectStreamField")), accessFlags := 26, slot := 2, constantValue := 0 }, { name := "REPL", type := .char, accessFlags := 26, slot := 3, constantValue := 0 }, { name := "CASE_INSENSITIVE_ORDER", type := (.object "java/util/Comparator"), accessFlags := 25, slot := 4, constantValue := 0 }, { name := "LATIN1", type := .byte, accessFlags := 24, slot := 5, constantValue := 0 }, { name := "UTF16", type := .byte, accessFlags := 24, slot := 6, constantValue := 0 }]
  methods := #[k7m0, k7m1, k7m2, k7m3, k7m4, k7m5, k7m6, k7m7]
  instanceTypes := #[(.array .byte), .byte, .int, .boolean]
  staticTypes := #[.long, .boolean, (.array (.object "java/io/ObjectStreamField")), .char, (.object "java/util/Comparator"), .byte, .byte]
  resolved := Array.replicate 1451 none
  statics := some 0 }

def pool8 : Array CpInfo := pool [(2, .class_ 4), (1, u "java/lang/Object"), (0, u "<init>"), (0, u "()V"), (0, .methodref 8 9), (0, .class_ 10), (0, .nameAndType 11 12), (0, u "java/lang/String"), (0, u "indexOf"), (0, u "(I)I"), (19, .class_ 33), (0, u "com/example/confinement/confinement/monitor/Sites"), (21, u "CALL"), (0, u "I"), (2, u "REFUSAL"), (1, u "MOCK"), (1, u "DESCRIPTOR"), (1, u "DECISION"), (0, u "Ljava/lang/String;"), (2, u "isFamily"), (0, u "(Ljava/lang/String;)Z")] 22

def k8m0 : Method := { name := "<init>", desc := "()V", sig := { parameters := [], returnType := none }, accessFlags := 2, code := none }
def k8c1 : Code := { maxStack := 2, maxLocals := 1, code := prog_13_method_2_code, exceptionTable := #[], attributes := #[] }
def k8m1 : Method := { name := "isFamily", desc := "(Ljava/lang/String;)Z", sig := { parameters := [(.object "java/lang/String")], returnType := some .boolean }, accessFlags := 8, code := some k8c1 }
/-- com/example/confinement/confinement/monitor/Sites -/
def k8 : Class := { plain "com/example/confinement/confinement/monitor/Sites" (some 0) with
  accessFlags := 48
  interfaces := #[]
  cf := some (fileOf pool8 32 #[] #[{ accessFlags := 2, nameIndex := 5, descriptorIndex := 6, attributes := #[] }, { accessFlags := 8, nameIndex := 69, descriptorIndex := 70, attributes := #[] }] 48 2 #[] #[{ accessFlags := 24, nameIndex := 55, descriptorIndex := 56, attributes := #[] }, { accessFlags := 24, nameIndex := 59, descriptorIndex := 56, attributes := #[] }, { accessFlags := 24, nameIndex := 61, descriptorIndex := 56, attributes := #[] }, { accessFlags := 26, nameIndex := 63, descriptorIndex := 56, attributes := #[] }, { accessFlags := 26, nameIndex := 65, descriptorIndex := 66, attributes := #[] }])
  fields := #[{ name := "CALL", type := .int, accessFlags := 24, slot := 0, constantValue := 0 }, { name := "REFUSAL", type := .int, accessFlags := 24, slot := 1, constantValue := 0 }, { name := "MOCK", type := .int, accessFlags := 24, slot := 2, constantValue := 0 }, { name := "DESCRIPTOR", type := .int, accessFlags := 26, slot := 3, constantValue := 0 }, { name := "DECISION", type := (.object "java/lang/String"), accessFlags := 26, slot := 4, constantValue := 0 }]
  methods := #[k8m0, k8m1]
  instanceTypes := #[]
  staticTypes := #[.int, .int, .int, .int, (.object "java/lang/String")]
  resolved := Array.replicate 93 none
  statics := none }

def pool9 : Array CpInfo := pool [(4, .class_ 6), (1, u "java/lang/Object"), (0, u "<init>"), (0, u "()V"), (5, .class_ 16), (1, u "java/lang/StringLatin1"), (21, .methodref 39 40), (0, .class_ 41), (0, .nameAndType 42 43), (0, u "java/lang/Math"), (0, u "min"), (0, u "(II)I"), (44, .methodref 14 89), (0, .nameAndType 90 91), (0, u "canEncode"), (0, u "(I)Z"), (0, .methodref 39 93), (0, .nameAndType 94 43), (0, u "max"), (0, .methodref 14 96), (0, .nameAndType 97 98), (0, u "indexOfChar"), (0, u "([BIII)I"), (2, u "indexOf"), (19, u "$assertionsDisabled"), (0, u "Z"), (98, .class_ 223), (1, u "java/lang/StringLatin1$LinesSpliterator"), (166, .class_ 391), (0, u "java/lang/StringLatin1$CharsSpliterator")] 3

def k9m0 : Method := { name := "<init>", desc := "()V", sig := { parameters := [], returnType := none }, accessFlags := 0, code := none }
def k9c1 : Code := { maxStack := 2, maxLocals := 1, code := jdk_43_method_4_code, exceptionTable := #[], attributes := #[] }
def k9m1 : Method := { name := "canEncode", desc := "(I)Z", sig := { parameters := [.int], returnType := some .boolean }, accessFlags := 9, code := some k9c1 }
def k9c2 : Code := { maxStack := 4, maxLocals := 4, code := jdk_43_method_22_code, exceptionTable := #[], attributes := #[] }
def k9m2 : Method := { name := "indexOf", desc := "([BIII)I", sig := { parameters := [(.array .byte), .int, .int, .int], returnType := some .int }, accessFlags := 9, code := some k9c2 }
def k9c3 : Code := { maxStack := 2, maxLocals := 6, code := jdk_43_method_23_code, exceptionTable := #[], attributes := #[] }
def k9m3 : Method := { name := "indexOfChar", desc := "([BIII)I", sig := { parameters := [(.array .byte), .int, .int, .int], returnType := some .int }, accessFlags := 10, code := some k9c3 }
/-- java/lang/StringLatin1 -/
def k9 : Class := { plain "java/lang/StringLatin1" (some 0) with
  accessFlags := 48
  interfaces := #[]
  cf := some (fileOf pool9 14 #[.nestMembers #[390, 221]] #[{ accessFlags := 0, nameIndex := 7, descriptorIndex := 8, attributes := #[] }, { accessFlags := 9, nameIndex := 90, descriptorIndex := 91, attributes := #[] }, { accessFlags := 9, nameIndex := 101, descriptorIndex := 98, attributes := #[] }, { accessFlags := 10, nameIndex := 97, descriptorIndex := 98, attributes := #[] }] 48 4 #[] #[{ accessFlags := 4120, nameIndex := 121, descriptorIndex := 122, attributes := #[] }])
  fields := #[{ name := "$assertionsDisabled", type := .boolean, accessFlags := 4120, slot := 0, constantValue := 0 }]
  methods := #[k9m0, k9m1, k9m2, k9m3]
  instanceTypes := #[]
  staticTypes := #[.boolean]
  resolved := Array.replicate 395 none
  statics := none }

def pool10 : Array CpInfo := pool [(1, .class_ 2), (0, u "java/lang/Math"), (1, .class_ 6), (1, u "java/lang/Object"), (0, u "<init>"), (0, u "()V"), (89, .class_ 100), (1, u "java/lang/Math$RandomNumberGeneratorHolder"), (71, u "negativeZeroFloatBits"), (0, u "J"), (2, u "negativeZeroDoubleBits"), (21, u "max"), (2, u "min"), (43, u "$assertionsDisabled"), (0, u "Z"), (88, u "(II)I"), (2, u "twoToTheDoubleScaleDown"), (0, u "D"), (4, u "twoToTheDoubleScaleUp"), (9, u "E"), (3, u "PI"), (2, u "TAU"), (2, u "DEGREES_TO_RADIANS"), (0, u "RADIANS_TO_DEGREES")] 94

def k10m0 : Method := { name := "<init>", desc := "()V", sig := { parameters := [], returnType := none }, accessFlags := 2, code := none }
def k10c1 : Code := { maxStack := 2, maxLocals := 2, code := jdk_29_method_65_code, exceptionTable := #[], attributes := #[] }
def k10m1 : Method := { name := "max", desc := "(II)I", sig := { parameters := [.int, .int], returnType := some .int }, accessFlags := 9, code := some k10c1 }
def k10c2 : Code := { maxStack := 2, maxLocals := 2, code := jdk_29_method_69_code, exceptionTable := #[], attributes := #[] }
def k10m2 : Method := { name := "min", desc := "(II)I", sig := { parameters := [.int, .int], returnType := some .int }, accessFlags := 9, code := some k10c2 }
/-- java/lang/Math -/
def k10 : Class := { plain "java/lang/Math" (some 0) with
  accessFlags := 49
  interfaces := #[]
  cf := some (fileOf pool10 1 #[.nestMembers #[98]] #[{ accessFlags := 2, nameIndex := 7, descriptorIndex := 8, attributes := #[] }, { accessFlags := 9, nameIndex := 198, descriptorIndex := 335, attributes := #[] }, { accessFlags := 9, nameIndex := 201, descriptorIndex := 335, attributes := #[] }] 49 4 #[] #[{ accessFlags := 25, nameIndex := 354, descriptorIndex := 339, attributes := #[] }, { accessFlags := 25, nameIndex := 358, descriptorIndex := 339, attributes := #[] }, { accessFlags := 25, nameIndex := 361, descriptorIndex := 339, attributes := #[] }, { accessFlags := 26, nameIndex := 364, descriptorIndex := 339, attributes := #[] }, { accessFlags := 26, nameIndex := 365, descriptorIndex := 339, attributes := #[] }, { accessFlags := 26, nameIndex := 172, descriptorIndex := 173, attributes := #[] }, { accessFlags := 26, nameIndex := 176, descriptorIndex := 173, attributes := #[] }, { accessFlags := 8, nameIndex := 344, descriptorIndex := 339, attributes := #[] }, { accessFlags := 8, nameIndex := 338, descriptorIndex := 339, attributes := #[] }, { accessFlags := 4120, nameIndex := 245, descriptorIndex := 246, attributes := #[] }])
  fields := #[{ name := "E", type := .double, accessFlags := 25, slot := 0, constantValue := 0 }, { name := "PI", type := .double, accessFlags := 25, slot := 1, constantValue := 0 }, { name := "TAU", type := .double, accessFlags := 25, slot := 2, constantValue := 0 }, { name := "DEGREES_TO_RADIANS", type := .double, accessFlags := 26, slot := 3, constantValue := 0 }, { name := "RADIANS_TO_DEGREES", type := .double, accessFlags := 26, slot := 4, constantValue := 0 }, { name := "negativeZeroFloatBits", type := .long, accessFlags := 26, slot := 5, constantValue := 0 }, { name := "negativeZeroDoubleBits", type := .long, accessFlags := 26, slot := 6, constantValue := 0 }, { name := "twoToTheDoubleScaleUp", type := .double, accessFlags := 8, slot := 7, constantValue := 0 }, { name := "twoToTheDoubleScaleDown", type := .double, accessFlags := 8, slot := 8, constantValue := 0 }, { name := "$assertionsDisabled", type := .boolean, accessFlags := 4120, slot := 9, constantValue := 0 }]
  methods := #[k10m0, k10m1, k10m2]
  instanceTypes := #[]
  staticTypes := #[.double, .double, .double, .double, .double, .long, .long, .double, .double, .boolean]
  resolved := Array.replicate 460 none
  statics := none }

def pool11 : Array CpInfo := pool [(6, .class_ 8), (1, u "java/lang/Object"), (0, u "<init>"), (0, u "()V"), (1, .class_ 14), (1, u "java/lang/StringUTF16"), (31, u "$assertionsDisabled"), (0, u "Z"), (13, u "HI_BYTE_SHIFT"), (0, u "I"), (2, u "LO_BYTE_SHIFT"), (49, .methodref 12 116), (0, .nameAndType 117 118), (0, u "compress"), (0, u "([CI[BII)I"), (3, u "([CII)[B"), (138, u "coderFromArrayLen"), (0, u "([BI)B"), (106, .class_ 371), (1, u "java/lang/StringUTF16$LinesSpliterator"), (58, u "MAX_LENGTH"), (196, .class_ 628), (0, u "java/lang/StringUTF16$CodePointsSpliterator"), (0, .class_ 630), (0, u "java/lang/StringUTF16$CharsSpliterator")] 4

def k11m0 : Method := { name := "<init>", desc := "()V", sig := { parameters := [], returnType := none }, accessFlags := 0, code := none }
def k11c1 : Code := { maxStack := 2, maxLocals := 2, code := jdk_52_method_15_code, exceptionTable := #[], attributes := #[] }
def k11m1 : Method := { name := "coderFromArrayLen", desc := "([BI)B", sig := { parameters := [(.array .byte), .int], returnType := some .byte }, accessFlags := 8, code := some k11c1 }
def k11c2 : Code := { maxStack := 5, maxLocals := 6, code := jdk_52_method_16_code, exceptionTable := #[], attributes := #[] }
def k11m2 : Method := { name := "compress", desc := "([CII)[B", sig := { parameters := [(.array .char), .int, .int], returnType := some (.array .byte) }, accessFlags := 9, code := some k11c2 }
def k11c3 : Code := { maxStack := 3, maxLocals := 7, code := jdk_52_method_21_code, exceptionTable := #[], attributes := #[] }
def k11m3 : Method := { name := "compress", desc := "([CI[BII)I", sig := { parameters := [(.array .char), .int, (.array .byte), .int, .int], returnType := some .int }, accessFlags := 9, code := some k11c3 }
/-- java/lang/StringUTF16 -/
def k11 : Class := { plain "java/lang/StringUTF16" (some 0) with
  accessFlags := 48
  interfaces := #[]
  cf := some (fileOf pool11 12 #[.nestMembers #[627, 629, 369]] #[{ accessFlags := 0, nameIndex := 9, descriptorIndex := 10, attributes := #[] }, { accessFlags := 8, nameIndex := 261, descriptorIndex := 262, attributes := #[] }, { accessFlags := 9, nameIndex := 117, descriptorIndex := 122, attributes := #[] }, { accessFlags := 9, nameIndex := 117, descriptorIndex := 118, attributes := #[] }] 48 6 #[] #[{ accessFlags := 26, nameIndex := 61, descriptorIndex := 62, attributes := #[] }, { accessFlags := 26, nameIndex := 65, descriptorIndex := 62, attributes := #[] }, { accessFlags := 24, nameIndex := 430, descriptorIndex := 62, attributes := #[] }, { accessFlags := 4120, nameIndex := 46, descriptorIndex := 47, attributes := #[] }])
  fields := #[{ name := "HI_BYTE_SHIFT", type := .int, accessFlags := 26, slot := 0, constantValue := 0 }, { name := "LO_BYTE_SHIFT", type := .int, accessFlags := 26, slot := 1, constantValue := 0 }, { name := "MAX_LENGTH", type := .int, accessFlags := 24, slot := 2, constantValue := 0 }, { name := "$assertionsDisabled", type := .boolean, accessFlags := 4120, slot := 3, constantValue := 0 }]
  methods := #[k11m0, k11m1, k11m2, k11m3]
  instanceTypes := #[]
  staticTypes := #[.int, .int, .int, .boolean]
  resolved := Array.replicate 635 none
  statics := none }

def pool12 : Array CpInfo := pool [(2, .class_ 4), (1, u "java/lang/Object"), (0, u "<init>"), (0, u "()V"), (17, .class_ 26), (1, u "jdk/internal/util/Preconditions"), (28, .class_ 56), (0, u "jdk/internal/util/Preconditions$4"), (57, .class_ 115), (0, u "jdk/internal/util/Preconditions$1"), (7, u "SIOOBE_FORMATTER"), (0, u "Ljava/util/function/BiFunction;"), (0, .class_ 126), (0, u "jdk/internal/util/Preconditions$2"), (3, u "AIOOBE_FORMATTER"), (0, .class_ 132), (0, u "jdk/internal/util/Preconditions$3"), (3, u "IOOBE_FORMATTER")] 57

def k12m0 : Method := { name := "<init>", desc := "()V", sig := { parameters := [], returnType := none }, accessFlags := 1, code := none }
/-- jdk/internal/util/Preconditions -/
def k12 : Class := { plain "jdk/internal/util/Preconditions" (some 0) with
  accessFlags := 33
  interfaces := #[]
  cf := some (fileOf pool12 24 #[.nestMembers #[55, 131, 125, 114]] #[{ accessFlags := 1, nameIndex := 5, descriptorIndex := 6, attributes := #[] }] 33 2 #[] #[{ accessFlags := 25, nameIndex := 123, descriptorIndex := 124, attributes := #[] }, { accessFlags := 25, nameIndex := 130, descriptorIndex := 124, attributes := #[] }, { accessFlags := 25, nameIndex := 136, descriptorIndex := 124, attributes := #[] }])
  fields := #[{ name := "SIOOBE_FORMATTER", type := (.object "java/util/function/BiFunction"), accessFlags := 25, slot := 0, constantValue := 0 }, { name := "AIOOBE_FORMATTER", type := (.object "java/util/function/BiFunction"), accessFlags := 25, slot := 1, constantValue := 0 }, { name := "IOOBE_FORMATTER", type := (.object "java/util/function/BiFunction"), accessFlags := 25, slot := 2, constantValue := 0 }]
  methods := #[k12m0]
  instanceTypes := #[]
  staticTypes := #[(.object "java/util/function/BiFunction"), (.object "java/util/function/BiFunction"), (.object "java/util/function/BiFunction")]
  resolved := Array.replicate 194 none
  statics := some 1 }

def pool13 : Array CpInfo := pool [(9, u "<init>"), (6, .class_ 18), (1, u "java/lang/Object"), (0, u "()V"), (1, .class_ 23), (1, u "jdk/internal/util/ArraysSupport"), (0, u "LOG2_ARRAY_LONG_INDEX_SCALE"), (0, u "I"), (2, u "U"), (0, u "Ljdk/internal/misc/Unsafe;"), (8, u "BIG_ENDIAN"), (0, u "Z"), (8, u "LOG2_BYTE_BIT_SIZE"), (4, u "LOG2_ARRAY_INT_INDEX_SCALE"), (54, u "JLA"), (0, u "Ljdk/internal/access/JavaLangAccess;"), (11, u "LOG2_ARRAY_BOOLEAN_INDEX_SCALE"), (9, u "LOG2_ARRAY_BYTE_INDEX_SCALE"), (5, u "LOG2_ARRAY_CHAR_INDEX_SCALE"), (5, u "LOG2_ARRAY_SHORT_INDEX_SCALE"), (18, u "LOG2_ARRAY_FLOAT_INDEX_SCALE"), (24, u "LOG2_ARRAY_DOUBLE_INDEX_SCALE"), (89, u "T_BOOLEAN"), (2, u "T_CHAR"), (1, u "T_FLOAT"), (1, u "T_DOUBLE"), (1, u "T_BYTE"), (1, u "T_SHORT"), (1, u "T_INT"), (1, u "T_LONG"), (1, u "SOFT_MAX_ARRAY_LENGTH")] 83

def k13m0 : Method := { name := "<init>", desc := "()V", sig := { parameters := [], returnType := none }, accessFlags := 2, code := none }
/-- jdk/internal/util/ArraysSupport -/
def k13 : Class := { plain "jdk/internal/util/ArraysSupport" (some 0) with
  accessFlags := 33
  interfaces := #[]
  cf := some (fileOf pool13 21 #[] #[{ accessFlags := 2, nameIndex := 9, descriptorIndex := 19, attributes := #[] }] 33 16 #[] #[{ accessFlags := 24, nameIndex := 28, descriptorIndex := 29, attributes := #[] }, { accessFlags := 26, nameIndex := 38, descriptorIndex := 39, attributes := #[] }, { accessFlags := 25, nameIndex := 121, descriptorIndex := 25, attributes := #[] }, { accessFlags := 25, nameIndex := 131, descriptorIndex := 25, attributes := #[] }, { accessFlags := 25, nameIndex := 137, descriptorIndex := 25, attributes := #[] }, { accessFlags := 25, nameIndex := 143, descriptorIndex := 25, attributes := #[] }, { accessFlags := 25, nameIndex := 53, descriptorIndex := 25, attributes := #[] }, { accessFlags := 25, nameIndex := 24, descriptorIndex := 25, attributes := #[] }, { accessFlags := 25, nameIndex := 162, descriptorIndex := 25, attributes := #[] }, { accessFlags := 25, nameIndex := 187, descriptorIndex := 25, attributes := #[] }, { accessFlags := 26, nameIndex := 48, descriptorIndex := 25, attributes := #[] }, { accessFlags := 25, nameIndex := 277, descriptorIndex := 25, attributes := #[] }, { accessFlags := 25, nameIndex := 280, descriptorIndex := 25, attributes := #[] }, { accessFlags := 25, nameIndex := 282, descriptorIndex := 25, attributes := #[] }, { accessFlags := 25, nameIndex := 284, descriptorIndex := 25, attributes := #[] }, { accessFlags := 25, nameIndex := 286, descriptorIndex := 25, attributes := #[] }, { accessFlags := 25, nameIndex := 288, descriptorIndex := 25, attributes := #[] }, { accessFlags := 25, nameIndex := 290, descriptorIndex := 25, attributes := #[] }, { accessFlags := 25, nameIndex := 292, descriptorIndex := 25, attributes := #[] }, { accessFlags := 26, nameIndex := 108, descriptorIndex := 109, attributes := #[] }, { accessFlags := 25, nameIndex := 294, descriptorIndex := 25, attributes := #[] }])
  fields := #[{ name := "U", type := (.object "jdk/internal/misc/Unsafe"), accessFlags := 24, slot := 0, constantValue := 0 }, { name := "BIG_ENDIAN", type := .boolean, accessFlags := 26, slot := 1, constantValue := 0 }, { name := "LOG2_ARRAY_BOOLEAN_INDEX_SCALE", type := .int, accessFlags := 25, slot := 2, constantValue := 0 }, { name := "LOG2_ARRAY_BYTE_INDEX_SCALE", type := .int, accessFlags := 25, slot := 3, constantValue := 0 }, { name := "LOG2_ARRAY_CHAR_INDEX_SCALE", type := .int, accessFlags := 25, slot := 4, constantValue := 0 }, { name := "LOG2_ARRAY_SHORT_INDEX_SCALE", type := .int, accessFlags := 25, slot := 5, constantValue := 0 }, { name := "LOG2_ARRAY_INT_INDEX_SCALE", type := .int, accessFlags := 25, slot := 6, constantValue := 0 }, { name := "LOG2_ARRAY_LONG_INDEX_SCALE", type := .int, accessFlags := 25, slot := 7, constantValue := 0 }, { name := "LOG2_ARRAY_FLOAT_INDEX_SCALE", type := .int, accessFlags := 25, slot := 8, constantValue := 0 }, { name := "LOG2_ARRAY_DOUBLE_INDEX_SCALE", type := .int, accessFlags := 25, slot := 9, constantValue := 0 }, { name := "LOG2_BYTE_BIT_SIZE", type := .int, accessFlags := 26, slot := 10, constantValue := 0 }, { name := "T_BOOLEAN", type := .int, accessFlags := 25, slot := 11, constantValue := 0 }, { name := "T_CHAR", type := .int, accessFlags := 25, slot := 12, constantValue := 0 }, { name := "T_FLOAT", type := .int, accessFlags := 25, slot := 13, constantValue := 0 }, { name := "T_DOUBLE", type := .int, accessFlags := 25, slot := 14, constantValue := 0 }, { name := "T_BYTE", type := .int, accessFlags := 25, slot := 15, constantValue := 0 }, { name := "T_SHORT", type := .int, accessFlags := 25, slot := 16, constantValue := 0 }, { name := "T_INT", type := .int, accessFlags := 25, slot := 17, constantValue := 0 }, { name := "T_LONG", type := .int, accessFlags := 25, slot := 18, constantValue := 0 }, { name := "JLA", type := (.object "jdk/internal/access/JavaLangAccess"), accessFlags := 26, slot := 19, constantValue := 0 }, { name := "SOFT_MAX_ARRAY_LENGTH", type := .int, accessFlags := 25, slot := 20, constantValue := 0 }]
  methods := #[k13m0]
  instanceTypes := #[]
  staticTypes := #[(.object "jdk/internal/misc/Unsafe"), .boolean, .int, .int, .int, .int, .int, .int, .int, .int, .int, .int, .int, .int, .int, .int, .int, .int, .int, (.object "jdk/internal/access/JavaLangAccess"), .int]
  resolved := Array.replicate 378 none
  statics := none }

def pool14 : Array CpInfo := pool [(1, u "java/lang/Cloneable"), (0, .class_ 1), (0, u "java/lang/Object"), (0, .class_ 3)] 3

/-- java/lang/Cloneable -/
def k14 : Class := { plain "java/lang/Cloneable" (some 0) with
  accessFlags := 1537
  interfaces := #[]
  cf := some (fileOf pool14 2 #[] #[] 1537 4 #[] #[])
  fields := #[]
  methods := #[]
  instanceTypes := #[]
  staticTypes := #[]
  resolved := Array.replicate 8 none
  statics := none }

/-- the primitive byte -/
def k15 : Class := { plain "byte" none with kind := .primitive 'B', accessFlags := 0x411 }
/-- [B -/
def k16 : Class := { plain "[B" (some 0) with kind := .array 15 .byte, interfaces := #[14, 2], accessFlags := 1041 }

/-- the primitive char -/
def k17 : Class := { plain "char" none with kind := .primitive 'C', accessFlags := 0x411 }
/-- [C -/
def k18 : Class := { plain "[C" (some 0) with kind := .array 17 .char, interfaces := #[14, 2], accessFlags := 1041 }

/-- the primitive int -/
def k19 : Class := { plain "int" none with kind := .primitive 'I', accessFlags := 0x411 }
/-- [I -/
def k20 : Class := { plain "[I" (some 0) with kind := .array 19 .int, interfaces := #[14, 2], accessFlags := 1041 }

def heap : Heap := #[{ cls := 7, slots := #[.long 0, .int 1, .null, .int 0, .null, .int 0, .int 0], vm := .statics 7 },
  { cls := 12, slots := #[.null, .null, .null], vm := .statics 12 }]
def classes : Array Class := #[k0, k1, k2, k3, k4, k5, k6, k7, k8, k9, k10, k11, k12, k13, k14, k15, k16, k17, k18, k19, k20]
def interned : List (Array UInt16 × Addr) := []
def slotsUsed : Nat := 10
def theMethod : MethodId := ⟨1, 3⟩
def args0 : Array Value := #[.int 5, .int 5, .int 5, .int 5, .int 5, .int 5]
def aboutOver (below : List Frame) : State where
  vm := { classes := classes, interned := interned.toArray }
  heap := heap
  slotsUsed := slotsUsed
  threads := #[{ frames := .invoking theMethod args0 :: below }]
def below0 : List Frame := [.native { method := ⟨0, 0⟩, args := #[] }]
def about1 : State := aboutOver below0
def p0 : Program := .bare "" "" ""
def e0 : Env := launch0.env 0 0 0
theorem w_frames : about1.frames = Frame.invoking theMethod args0 :: below0 := rfl
set_option maxRecDepth 65536 in
theorem w_args : argsFit about1.vm theMethod args0 = true := by decide +kernel
set_option maxRecDepth 65536 in
theorem w_heap : heapFits about1 = true := by decide +kernel
set_option maxRecDepth 65536 in
theorem w_runnable : about1.curStatus? = some .runnable := by decide +kernel
set_option maxRecDepth 65536 in
theorem w_alone : about1.alone = true := by decide +kernel
set_option maxRecDepth 65536 in
theorem w_named : about1.methodNamed? x = some theMethod := by decide +kernel
set_option maxRecDepth 65536 in
theorem w_hears : about1.hears theMethod below0 = true := by decide +kernel
set_option maxRecDepth 65536 in
theorem w_ripe : about1.ripe theMethod args0 below0 = true := by decide +kernel
theorem w_running : about1.status = .running := rfl
set_option maxRecDepth 65536 in
theorem w_room : about1.hasRoom e0.platform room_1 = true :=
  launch0.hasRoom_least _ room_1 (by decide +kernel) (by decide +kernel) (by decide +kernel) (by decide +kernel) (by decide +kernel) (by decide +kernel)
theorem allAtoms_all (ts : List Jvm.Cond) (a : Array Jvm.Value) (st : Jvm.State) : (allAtoms ts).before a st = ts.all (fun c => c.before a st) := by
  induction ts with
  | nil => rfl
  | cons c t ih =>
    show (Jvm.Cond.and c (allAtoms t)).before a st = _
    rw [Jvm.Cond.before_and, ih, List.all_cons]
def words1 : List Jvm.Cond := Jvm.Cond.code x code maxLocals ret :: tables_1
/-- a 'code' word, met by the world's own term for the bytes: nothing is compared byte by byte -/
theorem code_word {y : MethodName} {bytes : ByteArray} {mx : Nat} {rt : Option FieldType} {a : Array Value} {s : State} {m : MethodId} {meth : Method} {c : Code} (h1 : s.methodNamed? y = some m) (h2 : s.vm.method? m = some meth) (h3 : meth.code = some c) (h4 : c.code = bytes)
    (h5 : (c.maxLocals == mx && c.exceptionTable.isEmpty && decide (c.maxStack ≤ mostOperands) && decide (meth.sig.returnType = rt) && !meth.locks && decide (parseMethodDescriptor y.desc = some meth.sig)) = true) : (Jvm.Cond.code y bytes mx rt).before a s = true := by
  simp only [Bool.and_eq_true, beq_iff_eq, Bool.not_eq_true', decide_eq_true_eq] at h5
  obtain ⟨⟨⟨⟨⟨g1, g2⟩, g3⟩, g4⟩, g5⟩, g6⟩ := h5
  simp [Cond.before, Cond.holds, Cond.value, h1, h2, h3, h4, g1, g2, g3, g4, g5, g6]
def isCode : Jvm.Cond → Bool
  | .code _ _ _ _ => true
  | _ => false
theorem all_split {L : List Jvm.Cond} {P : Jvm.Cond → Bool} (h1 : L.all (fun c => isCode c || P c) = true) (h2 : ∀ c ∈ L.filter isCode, P c = true) : L.all P = true := by
  refine List.all_eq_true.mpr fun c hc => ?_
  have h := List.all_eq_true.mp h1 c hc
  rcases Bool.eq_false_or_eq_true (isCode c) with hi | hi
  · exact h2 c (List.mem_filter.mpr ⟨hc, hi⟩)
  · simpa [hi] using h
set_option maxRecDepth 65536 in
theorem w_c0 : (Jvm.Cond.code x code maxLocals ret).before args0 about1 = true := code_word (m := ⟨1, 3⟩) (meth := k1m3) (c := k1c3) (by decide +kernel) rfl rfl rfl (by decide +kernel)
set_option maxRecDepth 65536 in
theorem w_c1 : (Jvm.Cond.code ({ cls := "com/example/confinement/confinement/monitor/SitesIsFamilyPinLaw", name := "pick", desc := "(I)C" } : Jvm.MethodName) method_2_code (1 : Nat) (Option.some Jvm.ClassFile.FieldType.char)).before args0 about1 = true := code_word (m := ⟨1, 1⟩) (meth := k1m1) (c := k1c1) (by decide +kernel) rfl rfl rfl (by decide +kernel)
set_option maxRecDepth 65536 in
theorem w_c2 : (Jvm.Cond.code ({ cls := "com/example/confinement/confinement/monitor/SitesIsFamilyPinLaw", name := "make", desc := "(ICCCCC)Ljava/lang/String;" } : Jvm.MethodName) method_3_code (6 : Nat) (Option.some (Jvm.ClassFile.FieldType.object "java/lang/String"))).before args0 about1 = true := code_word (m := ⟨1, 2⟩) (meth := k1m2) (c := k1c2) (by decide +kernel) rfl rfl rfl (by decide +kernel)
set_option maxRecDepth 65536 in
theorem w_c3 : (Jvm.Cond.code ({ cls := "java/lang/String", name := "<init>", desc := "([C)V" } : Jvm.MethodName) jdk_42_method_3_code (2 : Nat) (Option.none : Option Jvm.ClassFile.FieldType)).before args0 about1 = true := code_word (m := ⟨7, 1⟩) (meth := k7m1) (c := k7c1) (by decide +kernel) rfl rfl rfl (by decide +kernel)
set_option maxRecDepth 65536 in
theorem w_c4 : (Jvm.Cond.code ({ cls := "java/lang/String", name := "<init>", desc := "([CIILjava/lang/Void;)V" } : Jvm.MethodName) jdk_42_method_149_code (6 : Nat) (Option.none : Option Jvm.ClassFile.FieldType)).before args0 about1 = true := code_word (m := ⟨7, 5⟩) (meth := k7m5) (c := k7c5) (by decide +kernel) rfl rfl rfl (by decide +kernel)
set_option maxRecDepth 65536 in
theorem w_c5 : (Jvm.Cond.code ({ cls := "java/lang/Object", name := "<init>", desc := "()V" } : Jvm.MethodName) object_method_1_code (1 : Nat) (Option.none : Option Jvm.ClassFile.FieldType)).before args0 about1 = true := code_word (m := ⟨0, 0⟩) (meth := k0m0) (c := k0c0) (by decide +kernel) rfl rfl rfl (by decide +kernel)
set_option maxRecDepth 65536 in
theorem w_c6 : (Jvm.Cond.code ({ cls := "com/example/confinement/confinement/monitor/Sites", name := "isFamily", desc := "(Ljava/lang/String;)Z" } : Jvm.MethodName) prog_13_method_2_code (1 : Nat) (Option.some Jvm.ClassFile.FieldType.boolean)).before args0 about1 = true := code_word (m := ⟨8, 1⟩) (meth := k8m1) (c := k8c1) (by decide +kernel) rfl rfl rfl (by decide +kernel)
set_option maxRecDepth 65536 in
theorem w_c7 : (Jvm.Cond.code ({ cls := "java/lang/String", name := "indexOf", desc := "(I)I" } : Jvm.MethodName) jdk_42_method_79_code (2 : Nat) (Option.some Jvm.ClassFile.FieldType.int)).before args0 about1 = true := code_word (m := ⟨7, 3⟩) (meth := k7m3) (c := k7c3) (by decide +kernel) rfl rfl rfl (by decide +kernel)
set_option maxRecDepth 65536 in
theorem w_c8 : (Jvm.Cond.code ({ cls := "java/lang/String", name := "indexOf", desc := "(II)I" } : Jvm.MethodName) jdk_42_method_80_code (3 : Nat) (Option.some Jvm.ClassFile.FieldType.int)).before args0 about1 = true := code_word (m := ⟨7, 4⟩) (meth := k7m4) (c := k7c4) (by decide +kernel) rfl rfl rfl (by decide +kernel)
set_option maxRecDepth 65536 in
theorem w_c9 : (Jvm.Cond.code ({ cls := "java/lang/String", name := "isLatin1", desc := "()Z" } : Jvm.MethodName) jdk_42_method_154_code (1 : Nat) (Option.some Jvm.ClassFile.FieldType.boolean)).before args0 about1 = true := code_word (m := ⟨7, 7⟩) (meth := k7m7) (c := k7c7) (by decide +kernel) rfl rfl rfl (by decide +kernel)
set_option maxRecDepth 65536 in
theorem w_c10 : (Jvm.Cond.code ({ cls := "java/lang/String", name := "length", desc := "()I" } : Jvm.MethodName) jdk_42_method_54_code (1 : Nat) (Option.some Jvm.ClassFile.FieldType.int)).before args0 about1 = true := code_word (m := ⟨7, 2⟩) (meth := k7m2) (c := k7c2) (by decide +kernel) rfl rfl rfl (by decide +kernel)
set_option maxRecDepth 65536 in
theorem w_c11 : (Jvm.Cond.code ({ cls := "java/lang/String", name := "coder", desc := "()B" } : Jvm.MethodName) jdk_42_method_152_code (1 : Nat) (Option.some Jvm.ClassFile.FieldType.byte)).before args0 about1 = true := code_word (m := ⟨7, 6⟩) (meth := k7m6) (c := k7c6) (by decide +kernel) rfl rfl rfl (by decide +kernel)
set_option maxRecDepth 65536 in
theorem w_c12 : (Jvm.Cond.code ({ cls := "java/lang/StringLatin1", name := "indexOf", desc := "([BIII)I" } : Jvm.MethodName) jdk_43_method_22_code (4 : Nat) (Option.some Jvm.ClassFile.FieldType.int)).before args0 about1 = true := code_word (m := ⟨9, 2⟩) (meth := k9m2) (c := k9c2) (by decide +kernel) rfl rfl rfl (by decide +kernel)
set_option maxRecDepth 65536 in
theorem w_c13 : (Jvm.Cond.code ({ cls := "java/lang/StringLatin1", name := "canEncode", desc := "(I)Z" } : Jvm.MethodName) jdk_43_method_4_code (1 : Nat) (Option.some Jvm.ClassFile.FieldType.boolean)).before args0 about1 = true := code_word (m := ⟨9, 1⟩) (meth := k9m1) (c := k9c1) (by decide +kernel) rfl rfl rfl (by decide +kernel)
set_option maxRecDepth 65536 in
theorem w_c14 : (Jvm.Cond.code ({ cls := "java/lang/Math", name := "max", desc := "(II)I" } : Jvm.MethodName) jdk_29_method_65_code (2 : Nat) (Option.some Jvm.ClassFile.FieldType.int)).before args0 about1 = true := code_word (m := ⟨10, 1⟩) (meth := k10m1) (c := k10c1) (by decide +kernel) rfl rfl rfl (by decide +kernel)
set_option maxRecDepth 65536 in
theorem w_c15 : (Jvm.Cond.code ({ cls := "java/lang/Math", name := "min", desc := "(II)I" } : Jvm.MethodName) jdk_29_method_69_code (2 : Nat) (Option.some Jvm.ClassFile.FieldType.int)).before args0 about1 = true := code_word (m := ⟨10, 2⟩) (meth := k10m2) (c := k10c2) (by decide +kernel) rfl rfl rfl (by decide +kernel)
set_option maxRecDepth 65536 in
theorem w_c16 : (Jvm.Cond.code ({ cls := "java/lang/StringUTF16", name := "compress", desc := "([CII)[B" } : Jvm.MethodName) jdk_52_method_16_code (6 : Nat) (Option.some (Jvm.ClassFile.FieldType.array Jvm.ClassFile.FieldType.byte))).before args0 about1 = true := code_word (m := ⟨11, 2⟩) (meth := k11m2) (c := k11c2) (by decide +kernel) rfl rfl rfl (by decide +kernel)
set_option maxRecDepth 65536 in
theorem w_c17 : (Jvm.Cond.code ({ cls := "java/lang/StringUTF16", name := "compress", desc := "([CI[BII)I" } : Jvm.MethodName) jdk_52_method_21_code (7 : Nat) (Option.some Jvm.ClassFile.FieldType.int)).before args0 about1 = true := code_word (m := ⟨11, 3⟩) (meth := k11m3) (c := k11c3) (by decide +kernel) rfl rfl rfl (by decide +kernel)
set_option maxRecDepth 65536 in
theorem w_c18 : (Jvm.Cond.code ({ cls := "java/lang/StringUTF16", name := "coderFromArrayLen", desc := "([BI)B" } : Jvm.MethodName) jdk_52_method_15_code (2 : Nat) (Option.some Jvm.ClassFile.FieldType.byte)).before args0 about1 = true := code_word (m := ⟨11, 1⟩) (meth := k11m1) (c := k11c1) (by decide +kernel) rfl rfl rfl (by decide +kernel)
set_option maxRecDepth 65536 in
theorem w_c19 : (Jvm.Cond.code ({ cls := "java/lang/StringLatin1", name := "indexOfChar", desc := "([BIII)I" } : Jvm.MethodName) jdk_43_method_23_code (6 : Nat) (Option.some Jvm.ClassFile.FieldType.int)).before args0 about1 = true := code_word (m := ⟨9, 3⟩) (meth := k9m3) (c := k9c3) (by decide +kernel) rfl rfl rfl (by decide +kernel)
def codes1 : List Jvm.Cond := [Jvm.Cond.code x code maxLocals ret, Jvm.Cond.code ({ cls := "com/example/confinement/confinement/monitor/SitesIsFamilyPinLaw", name := "pick", desc := "(I)C" } : Jvm.MethodName) method_2_code (1 : Nat) (Option.some Jvm.ClassFile.FieldType.char), Jvm.Cond.code ({ cls := "com/example/confinement/confinement/monitor/SitesIsFamilyPinLaw", name := "make", desc := "(ICCCCC)Ljava/lang/String;" } : Jvm.MethodName) method_3_code (6 : Nat) (Option.some (Jvm.ClassFile.FieldType.object "java/lang/String")), Jvm.Cond.code ({ cls := "java/lang/String", name := "<init>", desc := "([C)V" } : Jvm.MethodName) jdk_42_method_3_code (2 : Nat) (Option.none : Option Jvm.ClassFile.FieldType), Jvm.Cond.code ({ cls := "java/lang/String", name := "<init>", desc := "([CIILjava/lang/Void;)V" } : Jvm.MethodName) jdk_42_method_149_code (6 : Nat) (Option.none : Option Jvm.ClassFile.FieldType), Jvm.Cond.code ({ cls := "java/lang/Object", name := "<init>", desc := "()V" } : Jvm.MethodName) object_method_1_code (1 : Nat) (Option.none : Option Jvm.ClassFile.FieldType), Jvm.Cond.code ({ cls := "com/example/confinement/confinement/monitor/Sites", name := "isFamily", desc := "(Ljava/lang/String;)Z" } : Jvm.MethodName) prog_13_method_2_code (1 : Nat) (Option.some Jvm.ClassFile.FieldType.boolean), Jvm.Cond.code ({ cls := "java/lang/String", name := "indexOf", desc := "(I)I" } : Jvm.MethodName) jdk_42_method_79_code (2 : Nat) (Option.some Jvm.ClassFile.FieldType.int), Jvm.Cond.code ({ cls := "java/lang/String", name := "indexOf", desc := "(II)I" } : Jvm.MethodName) jdk_42_method_80_code (3 : Nat) (Option.some Jvm.ClassFile.FieldType.int), Jvm.Cond.code ({ cls := "java/lang/String", name := "isLatin1", desc := "()Z" } : Jvm.MethodName) jdk_42_method_154_code (1 : Nat) (Option.some Jvm.ClassFile.FieldType.boolean), Jvm.Cond.code ({ cls := "java/lang/String", name := "length", desc := "()I" } : Jvm.MethodName) jdk_42_method_54_code (1 : Nat) (Option.some Jvm.ClassFile.FieldType.int), Jvm.Cond.code ({ cls := "java/lang/String", name := "coder", desc := "()B" } : Jvm.MethodName) jdk_42_method_152_code (1 : Nat) (Option.some Jvm.ClassFile.FieldType.byte), Jvm.Cond.code ({ cls := "java/lang/StringLatin1", name := "indexOf", desc := "([BIII)I" } : Jvm.MethodName) jdk_43_method_22_code (4 : Nat) (Option.some Jvm.ClassFile.FieldType.int), Jvm.Cond.code ({ cls := "java/lang/StringLatin1", name := "canEncode", desc := "(I)Z" } : Jvm.MethodName) jdk_43_method_4_code (1 : Nat) (Option.some Jvm.ClassFile.FieldType.boolean), Jvm.Cond.code ({ cls := "java/lang/Math", name := "max", desc := "(II)I" } : Jvm.MethodName) jdk_29_method_65_code (2 : Nat) (Option.some Jvm.ClassFile.FieldType.int), Jvm.Cond.code ({ cls := "java/lang/Math", name := "min", desc := "(II)I" } : Jvm.MethodName) jdk_29_method_69_code (2 : Nat) (Option.some Jvm.ClassFile.FieldType.int), Jvm.Cond.code ({ cls := "java/lang/StringUTF16", name := "compress", desc := "([CII)[B" } : Jvm.MethodName) jdk_52_method_16_code (6 : Nat) (Option.some (Jvm.ClassFile.FieldType.array Jvm.ClassFile.FieldType.byte)), Jvm.Cond.code ({ cls := "java/lang/StringUTF16", name := "compress", desc := "([CI[BII)I" } : Jvm.MethodName) jdk_52_method_21_code (7 : Nat) (Option.some Jvm.ClassFile.FieldType.int), Jvm.Cond.code ({ cls := "java/lang/StringUTF16", name := "coderFromArrayLen", desc := "([BI)B" } : Jvm.MethodName) jdk_52_method_15_code (2 : Nat) (Option.some Jvm.ClassFile.FieldType.byte), Jvm.Cond.code ({ cls := "java/lang/StringLatin1", name := "indexOfChar", desc := "([BIII)I" } : Jvm.MethodName) jdk_43_method_23_code (6 : Nat) (Option.some Jvm.ClassFile.FieldType.int)]
set_option maxRecDepth 65536 in
theorem codes_eq : words1.filter isCode = codes1 := rfl
theorem w_codes : ∀ c ∈ words1.filter isCode, c.before args0 about1 = true := by
  rw [codes_eq]
  intro c hc
  simp only [codes1, List.mem_cons, List.not_mem_nil, or_false] at hc
  rcases hc with rfl | rfl | rfl | rfl | rfl | rfl | rfl | rfl | rfl | rfl | rfl | rfl | rfl | rfl | rfl | rfl | rfl | rfl | rfl | rfl
  · exact w_c0
  · exact w_c1
  · exact w_c2
  · exact w_c3
  · exact w_c4
  · exact w_c5
  · exact w_c6
  · exact w_c7
  · exact w_c8
  · exact w_c9
  · exact w_c10
  · exact w_c11
  · exact w_c12
  · exact w_c13
  · exact w_c14
  · exact w_c15
  · exact w_c16
  · exact w_c17
  · exact w_c18
  · exact w_c19
set_option maxRecDepth 65536 in
theorem w_t1 : (words1.take 24).all (fun c => isCode c || c.before args0 about1) = true := by decide +kernel
set_option maxRecDepth 65536 in
theorem w_t2 : ((words1.drop 24).take 24).all (fun c => isCode c || c.before args0 about1) = true := by decide +kernel
set_option maxRecDepth 65536 in
theorem w_t3 : (((words1.drop 24).drop 24).take 24).all (fun c => isCode c || c.before args0 about1) = true := by decide +kernel
set_option maxRecDepth 65536 in
theorem w_t4 : (((words1.drop 24).drop 24).drop 24).all (fun c => isCode c || c.before args0 about1) = true := by decide +kernel
theorem w_tables : (allAtoms (Jvm.Cond.code x code maxLocals ret :: tables_1)).before args0 about1 = true := by
  rw [allAtoms_all]
  show words1.all (fun c => c.before args0 about1) = true
  refine all_split ?_ w_codes
  rw [← List.take_append_drop 24 words1, List.all_append, w_t1, ← List.take_append_drop 24 (words1.drop 24), List.all_append, w_t2, ← List.take_append_drop 24 ((words1.drop 24).drop 24), List.all_append, w_t3, w_t4]
  rfl
set_option maxRecDepth 65536 in
theorem w_rest : rest_1_c.before args0 about1 = true := by decide +kernel
set_option maxRecDepth 65536 in
theorem w_case : (Jvm.Cond.and given_1 narrow_1).before args0 about1 = true := by decide +kernel
set_option maxRecDepth 65536 in
theorem w_consts : constsHeld consts_1 about1 := Jvm.Lit.constsHeldB_iff.mp (by decide +kernel)
theorem w_applies : (headSpec (Jvm.Cond.code x code maxLocals ret :: tables_1) room_1).applies x e0.platform about1 = true :=
  (Spec.applies_iff w_frames).mpr ⟨w_running, w_runnable, w_alone, w_named, w_hears, w_ripe, w_room, w_tables⟩
theorem atStart : AtStart classFile x code maxLocals ret World_1 tables_1 room_1 Calls_1 rest_1 Pre_1 launch0 p0 e0 about1 theMethod args0 below0 :=
  ⟨lists_1, trivial, launch0.admits_env _ _ _, launch0.least_env, fairChoices_fair.cas, fairChoices_fair.clock, w_frames, w_args, w_heap, w_applies, ⟨w_consts, trivial⟩, w_rest, w_case⟩
end start1
theorem witness_1 : WitnessClaimed_1 := ⟨start1.p0, start1.e0, start1.about1, start1.theMethod, start1.args0, start1.below0, start1.atStart⟩
end Jvm.Pilot.@@N@@

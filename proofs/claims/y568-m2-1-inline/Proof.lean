import JvmDerived
import JvmDerived.Pilot.@@N@@Statement
import JvmDerived.Pilot.@@N@@Code
set_option linter.unusedVariables false
set_option linter.unusedSimpArgs false
namespace Jvm.Pilot.@@N@@
open Jvm Jvm.ClassFile Sem Op Lib Jvm.Free Jvm.Stand Jvm.LawKit Jvm.RoadKit Bundle Jvm.Pilot.@@N@@.Jvm.D
/-- from the frame g over T the run comes to its end, and P holds of what comes out -/
def Wp (p : Program) (e : Env) (below : List Frame) (P : Outcome → State → Prop) (T : State) (g : JFrame) : Prop := ∃ s₂ o, Steps p.tables e below (T.setTop g) s₂ ∧ s₂.status = .running ∧ Ended s₂ below o ∧ P o s₂
/-- where a walk stands -/
def WS (p : Program) (l : Launch) (e : Env) (R : Room) (s : State) (m : MethodId) (args : Array Value) (below : List Frame) (meth : Method) (c : Code) (Z : State) (EL : List (String × Nat)) (n0 : Nat) (own : String) (code : ByteArray) (ml : Nat) (bw : Bool) (vm : Vm) (T : State) (h : Heap) (locs : List Loc) (cells slots : Nat) : Prop :=
  Stand p l e R (s.setVm vm) m args below meth c T locs cells slots ∧ T.heap = h ∧ Z.Warmed39 (s.setVm vm).vm ∧ (s.setVm vm).vm.findClass own = some m.cls ∧ p.tables.exec = Jvm.exec ∧ c.code = code ∧ c.maxLocals = ml ∧ Fr n0 locs ∧ Old Z n0 h ∧ ((bw = false ∧ vm = s.vm) ∨ (bw = true ∧ (∃ k, s.Since vm k ∧ k ≤ h.size) ∧ CHr Z EL s.vm s.heap vm h))
/-- what a callee's payer gives: a callee that interns nothing -/
def BkN (l : Launch) (R : Room) (p : Program) (e : Env) (below : List Frame) (s : State) (args : Array Value) (y : MethodName) (len W : Nat) (as' : Array Value) (h : Heap) (n0 : Nat) (wr : List Addr) (Q : Option Value → Heap → Prop) (kc ks : Nat) : Prop := Back l R p e below s args y len W (fun B a => a = as' ∧ B.U.heap = h ∧ B.cells + kc ≤ R.cells ∧ B.slots + ks ≤ R.slots) (fun B _ v B' => ∃ L, (Fr n0 L ∧ Keep h B'.U.heap wr ∧ Q v B'.U.heap) ∧ B'.locs = B.locs ++ L ∧ B'.cells = B.cells + kc ∧ B'.slots = B.slots + ks)
/-- .. and one that may -/
def BkS (l : Launch) (R : Room) (p : Program) (e : Env) (below : List Frame) (s : State) (args : Array Value) (y : MethodName) (len W : Nat) (as' : Array Value) (h : Heap) (n0 : Nat) (wr : List Addr) (Q : Option Value → Heap → Prop) (kc ks : Nat) (Z : State) (EL : List (String × Nat)) (vm : Vm) : Prop := BackS l R p e below s args y len W (fun B a => a = as' ∧ B.U.heap = h ∧ B.cells + kc ≤ R.cells ∧ B.slots + ks ≤ R.slots) (fun B _ v B' => ∃ L, (Fr n0 L ∧ Keep h B'.U.heap wr ∧ Q v B'.U.heap) ∧ B'.locs = B.locs ++ L ∧ B'.cells = B.cells + kc ∧ B'.slots = B.slots + ks ∧ CHr Z EL vm h B'.U.vm B'.U.heap)
section OwnKit
variable {p : Program} {l : Launch} {e : Env} {R : Room} {s : State} {m : MethodId} {args : Array Value} {below : List Frame} {meth : Method} {c : Code} {Z : State} {EL : List (String × Nat)} {n0 : Nat} {own : String} {code : ByteArray} {ml : Nat} {bw : Bool} {vm : Vm} {T : State} {h : Heap} {locs : List Loc} {cells slots : Nat} {P : Outcome → State → Prop} {pc pc' : Nat} {L : Array Slot} {S : List Value} {a0 : Array Value}
theorem Wp.go {T T' : State} {g g' : JFrame} (k : Wp p e below P T' g') (st : ∀ t, Steps p.tables e below (T'.setTop g') t → Steps p.tables e below (T.setTop g) t) : Wp p e below P T g := by
  obtain ⟨s₂, o, a, r⟩ := k; exact ⟨s₂, o, st _ a, r⟩
theorem Wp.gos {T T' : State} {g g' : JFrame} (k : Wp p e below P T' g') (st : Steps p.tables e below (T.setTop g) (T'.setTop g')) : Wp p e below P T g := by
  obtain ⟨s₂, o, a, r⟩ := k; exact ⟨s₂, o, st.trans a, r⟩
abbrev wN (bw : Bool) (Z : State) (EL : List (String × Nat)) (vm : Vm) (h : Heap) (a : Addr) : Prop := bw = true → Safe Z EL vm h a
/-- a step of the tables alone -/
theorem WS.still {T' : State} (A : WS p l e R s m args below meth c Z EL n0 own code ml bw vm T h locs cells slots) (X : Stand p l e R (s.setVm vm) m args below meth c T' locs cells slots) (q : T'.heap = h) : WS p l e R s m args below meth c Z EL n0 own code ml bw vm T' h locs cells slots :=
  ⟨X, q, A.2.2⟩
theorem WS.grow {T' : State} {h' : Heap} {k n : Nat} (A : WS p l e R s m args below meth c Z EL n0 own code ml bw vm T h locs cells slots) (X : Stand p l e R (s.setVm vm) m args below meth c T' locs k n) (q : T'.heap = h') (E : Ext h h') : WS p l e R s m args below meth c Z EL n0 own code ml bw vm T' h' locs k n := by
  obtain ⟨-, -, a3, a4, a5, a6, a7, a8, a9, b⟩ := A
  refine ⟨X, q, a3, a4, a5, a6, a7, a8, a9.ext E, b.imp id fun ⟨b1, ⟨k, b2, b3⟩, b4⟩ => ⟨b1, ⟨k, b2, Nat.le_trans b3 E.1⟩, b4.trans (CHr.ext E b4.1)⟩⟩
theorem WS.kept {T' : State} {h' : Heap} {locs' : List Loc} {k n : Nat} {ws : List Addr} (A : WS p l e R s m args below meth c Z EL n0 own code ml bw vm T h locs cells slots) (X : Stand p l e R (s.setVm vm) m args below meth c T' locs' k n) (q : T'.heap = h') (N : Fr n0 locs') (K : Keep h h' ws) (hn : ∀ x ∈ ws, n0 ≤ x) (sf : bw = true → ∀ x ∈ ws, Safe Z EL vm h x) : WS p l e R s m args below meth c Z EL n0 own code ml bw vm T' h' locs' k n := by
  obtain ⟨-, -, a3, a4, a5, a6, a7, a8, a9, b⟩ := A
  refine ⟨X, q, a3, a4, a5, a6, a7, N, a9.keep K hn, b.imp id fun ⟨b1, ⟨k, b2, b3⟩, b4⟩ => ⟨b1, ⟨k, b2, Nat.le_trans b3 K.1⟩, b4.trans (CHr.keep K (sf b1) b4.1)⟩⟩
theorem WS.more {k n : Nat} (A : WS p l e R s m args below meth c Z EL n0 own code ml bw vm T h locs cells slots) (hk : cells ≤ k) (hn : slots ≤ n) : WS p l e R s m args below meth c Z EL n0 own code ml bw vm T h locs k n := ⟨A.1.more hk hn, A.2⟩
theorem WS.old (A : WS p l e R s m args below meth c Z EL n0 own code ml bw vm T h locs cells slots) : Old Z n0 h := A.2.2.2.2.2.2.2.2.1
theorem WS.sz (A : WS p l e R s m args below meth c Z EL n0 own code ml bw vm T h locs cells slots) : n0 ≤ h.size := by have q := A.old; exact q.1 ▸ q.2.1
theorem WS.hZ (A : WS p l e R s m args below meth c Z EL n0 own code ml bw vm T h locs cells slots) : Z.Warmed39 (s.setVm vm).vm := A.2.2.1
theorem WS.ch (A : WS p l e R s m args below meth c Z EL n0 own code ml bw vm T h locs cells slots) (q : bw = true) : CHr Z EL s.vm s.heap vm h := by
  obtain ⟨-, -, -, -, -, -, -, -, -, b⟩ := A
  rcases b with ⟨b, -⟩ | ⟨-, -, b⟩
  · rw [b] at q; cases q
  · exact b
theorem wd {ws : List Jvm.Cond} (hw : ∀ d ∈ ws, d.before a0 Z = true) (i : Nat) {d : Jvm.Cond} (q : ws[i]? = some d) : d.before a0 Z = true := hw _ (List.mem_of_getElem? q)
theorem Fld.ks {a : Addr} {C n d : String} {v : Value} {h h' : Heap} {ws : List Addr} (F : Fld Z h a C n d v) (K : Keep h h' ws) (q : a ∉ ws) : Fld Z h' a C n d v := F.keep K q

theorem f_iload (A : WS p l e R s m args below meth c Z EL n0 own code ml bw vm T h locs cells slots) {i : Nat} {v : Int32} (hd : decode code pc = .ok (.iload i, 2)) (hp : pc + 2 = pc') (hl : L[i]? = some (.val (.int v))) (k : Wp p e below P T (mkF m pc' L (.int v :: S))) : Wp p e below P T (mkF m pc L S) := by
  subst hp; exact k.go fun _ q => XS.iload A.1.here A.2.2.2.2.1 rfl (hb A.2.2.2.2.2.1 hd) hl q
theorem f_iloadN (A : WS p l e R s m args below meth c Z EL n0 own code ml bw vm T h locs cells slots) {i : Fin 4} {v : Int32} (hd : decode code pc = .ok (.iload_n i, 1)) (hp : pc + 1 = pc') (hl : L[i.val]? = some (.val (.int v))) (k : Wp p e below P T (mkF m pc' L (.int v :: S))) : Wp p e below P T (mkF m pc L S) := by
  subst hp; exact k.go fun _ q => XS.iloadN A.1.here A.2.2.2.2.1 rfl (hb A.2.2.2.2.2.1 hd) hl q
theorem f_istore (A : WS p l e R s m args below meth c Z EL n0 own code ml bw vm T h locs cells slots) {i : Nat} {v : Int32} {L' : Array Slot} (hd : decode code pc = .ok (.istore i, 2)) (hp : pc + 2 = pc') (hl : storeLocals L i (.int v) = some L') (k : Wp p e below P T (mkF m pc' L' S)) : Wp p e below P T (mkF m pc L (.int v :: S)) := by
  subst hp; exact k.go fun _ q => XS.istore A.1.here A.2.2.2.2.1 rfl (hb A.2.2.2.2.2.1 hd) rfl hl q
theorem f_istoreN (A : WS p l e R s m args below meth c Z EL n0 own code ml bw vm T h locs cells slots) {i : Fin 4} {v : Int32} {L' : Array Slot} (hd : decode code pc = .ok (.istore_n i, 1)) (hp : pc + 1 = pc') (hl : storeLocals L i.val (.int v) = some L') (k : Wp p e below P T (mkF m pc' L' S)) : Wp p e below P T (mkF m pc L (.int v :: S)) := by
  subst hp; exact k.go fun _ q => XS.istoreN A.1.here A.2.2.2.2.1 rfl (hb A.2.2.2.2.2.1 hd) rfl hl q
theorem f_lload (A : WS p l e R s m args below meth c Z EL n0 own code ml bw vm T h locs cells slots) {i : Nat} {v : Int64} (hd : decode code pc = .ok (.lload i, 2)) (hp : pc + 2 = pc') (hl : L[i]? = some (.val (.long v))) (k : Wp p e below P T (mkF m pc' L (.long v :: S))) : Wp p e below P T (mkF m pc L S) := by
  subst hp; exact k.go fun _ q => XS.lload A.1.here A.2.2.2.2.1 rfl (hb A.2.2.2.2.2.1 hd) hl q
theorem f_lloadN (A : WS p l e R s m args below meth c Z EL n0 own code ml bw vm T h locs cells slots) {i : Fin 4} {v : Int64} (hd : decode code pc = .ok (.lload_n i, 1)) (hp : pc + 1 = pc') (hl : L[i.val]? = some (.val (.long v))) (k : Wp p e below P T (mkF m pc' L (.long v :: S))) : Wp p e below P T (mkF m pc L S) := by
  subst hp; exact k.go fun _ q => XS.lloadN A.1.here A.2.2.2.2.1 rfl (hb A.2.2.2.2.2.1 hd) hl q
theorem f_lstore (A : WS p l e R s m args below meth c Z EL n0 own code ml bw vm T h locs cells slots) {i : Nat} {v : Int64} {L' : Array Slot} (hd : decode code pc = .ok (.lstore i, 2)) (hp : pc + 2 = pc') (hl : storeLocals L i (.long v) = some L') (k : Wp p e below P T (mkF m pc' L' S)) : Wp p e below P T (mkF m pc L (.long v :: S)) := by
  subst hp; exact k.go fun _ q => XS.lstore A.1.here A.2.2.2.2.1 rfl (hb A.2.2.2.2.2.1 hd) rfl hl q
theorem f_lstoreN (A : WS p l e R s m args below meth c Z EL n0 own code ml bw vm T h locs cells slots) {i : Fin 4} {v : Int64} {L' : Array Slot} (hd : decode code pc = .ok (.lstore_n i, 1)) (hp : pc + 1 = pc') (hl : storeLocals L i.val (.long v) = some L') (k : Wp p e below P T (mkF m pc' L' S)) : Wp p e below P T (mkF m pc L (.long v :: S)) := by
  subst hp; exact k.go fun _ q => XS.lstoreN A.1.here A.2.2.2.2.1 rfl (hb A.2.2.2.2.2.1 hd) rfl hl q
theorem f_aload (A : WS p l e R s m args below meth c Z EL n0 own code ml bw vm T h locs cells slots) {i : Nat} {v : Value} (hd : decode code pc = .ok (.aload i, 2)) (hp : pc + 2 = pc') (hl : L[i]? = some (.val v)) (hv : v.isRef = true) (k : Wp p e below P T (mkF m pc' L (v :: S))) : Wp p e below P T (mkF m pc L S) := by
  subst hp; exact k.go fun _ q => XS.aload A.1.here A.2.2.2.2.1 rfl (hb A.2.2.2.2.2.1 hd) hl hv q
theorem f_aloadN (A : WS p l e R s m args below meth c Z EL n0 own code ml bw vm T h locs cells slots) {i : Fin 4} {v : Value} (hd : decode code pc = .ok (.aload_n i, 1)) (hp : pc + 1 = pc') (hl : L[i.val]? = some (.val v)) (hv : v.isRef = true) (k : Wp p e below P T (mkF m pc' L (v :: S))) : Wp p e below P T (mkF m pc L S) := by
  subst hp; exact k.go fun _ q => XS.aloadN A.1.here A.2.2.2.2.1 rfl (hb A.2.2.2.2.2.1 hd) hl hv q
theorem f_astore (A : WS p l e R s m args below meth c Z EL n0 own code ml bw vm T h locs cells slots) {i : Nat} {v : Value} {L' : Array Slot} (hd : decode code pc = .ok (.astore i, 2)) (hp : pc + 2 = pc') (hv : v.isRef = true) (hl : storeLocals L i v = some L') (k : Wp p e below P T (mkF m pc' L' S)) : Wp p e below P T (mkF m pc L (v :: S)) := by
  subst hp; exact k.go fun _ q => XS.astore A.1.here A.2.2.2.2.1 rfl (hb A.2.2.2.2.2.1 hd) rfl hv hl q
theorem f_astoreN (A : WS p l e R s m args below meth c Z EL n0 own code ml bw vm T h locs cells slots) {i : Fin 4} {v : Value} {L' : Array Slot} (hd : decode code pc = .ok (.astore_n i, 1)) (hp : pc + 1 = pc') (hv : v.isRef = true) (hl : storeLocals L i.val v = some L') (k : Wp p e below P T (mkF m pc' L' S)) : Wp p e below P T (mkF m pc L (v :: S)) := by
  subst hp; exact k.go fun _ q => XS.astoreN A.1.here A.2.2.2.2.1 rfl (hb A.2.2.2.2.2.1 hd) rfl hv hl q
theorem f_iconst (A : WS p l e R s m args below meth c Z EL n0 own code ml bw vm T h locs cells slots) {i : Int} (hd : decode code pc = .ok (.iconst i, 1)) (hp : pc + 1 = pc') (v : Int32) (hv : Int32.ofInt i = v) (k : Wp p e below P T (mkF m pc' L (.int v :: S))) : Wp p e below P T (mkF m pc L S) := by
  subst hp hv; exact k.go fun _ q => XS.iconst A.1.here A.2.2.2.2.1 rfl (hb A.2.2.2.2.2.1 hd) q
theorem f_bipush (A : WS p l e R s m args below meth c Z EL n0 own code ml bw vm T h locs cells slots) {i : Int} (hd : decode code pc = .ok (.bipush i, 2)) (hp : pc + 2 = pc') (v : Int32) (hv : (Int8.ofInt i).toInt32 = v) (k : Wp p e below P T (mkF m pc' L (.int v :: S))) : Wp p e below P T (mkF m pc L S) := by
  subst hp hv; exact k.go fun _ q => XS.bipush A.1.here A.2.2.2.2.1 rfl (hb A.2.2.2.2.2.1 hd) q
theorem f_sipush (A : WS p l e R s m args below meth c Z EL n0 own code ml bw vm T h locs cells slots) {i : Int} (hd : decode code pc = .ok (.sipush i, 3)) (hp : pc + 3 = pc') (v : Int32) (hv : (Int16.ofInt i).toInt32 = v) (k : Wp p e below P T (mkF m pc' L (.int v :: S))) : Wp p e below P T (mkF m pc L S) := by
  subst hp hv; exact k.go fun _ q => XS.sipush A.1.here A.2.2.2.2.1 rfl (hb A.2.2.2.2.2.1 hd) q
theorem f_lconst (A : WS p l e R s m args below meth c Z EL n0 own code ml bw vm T h locs cells slots) {i : Fin 2} (hd : decode code pc = .ok (.lconst i, 1)) (hp : pc + 1 = pc') (v : Int64) (hv : Int64.ofNat i = v) (k : Wp p e below P T (mkF m pc' L (.long v :: S))) : Wp p e below P T (mkF m pc L S) := by
  subst hp hv; exact k.go fun _ q => XS.lconst A.1.here A.2.2.2.2.1 rfl (hb A.2.2.2.2.2.1 hd) q
theorem f_aconst_null (A : WS p l e R s m args below meth c Z EL n0 own code ml bw vm T h locs cells slots) (hd : decode code pc = .ok (.aconst_null, 1)) (hp : pc + 1 = pc') (k : Wp p e below P T (mkF m pc' L (.null :: S))) : Wp p e below P T (mkF m pc L S) := by
  subst hp; exact k.go fun _ q => XS.aconstNull A.1.here A.2.2.2.2.1 rfl (hb A.2.2.2.2.2.1 hd) q
theorem f_ldcI (A : WS p l e R s m args below meth c Z EL n0 own code ml bw vm T h locs cells slots) {i : Nat} {v : Int32} (hd : decode code pc = .ok (.ldc i, 2)) (hp : pc + 2 = pc') (w : (Cond.constant own i v).before a0 Z = true) (k : Wp p e below P T (mkF m pc' L (.int v :: S))) : Wp p e below P T (mkF m pc L S) := by
  subst hp; exact k.go fun t q => A.1.ldcInt A.2.2.2.2.1 A.2.2.2.1 (mvT A.hZ w) (g := mkF m pc L S) rfl (hb A.2.2.2.2.2.1 hd) t q
theorem f_ldc2J (A : WS p l e R s m args below meth c Z EL n0 own code ml bw vm T h locs cells slots) {i : Nat} {v : Int64} (hd : decode code pc = .ok (.ldc2_w i, 3)) (hp : pc + 3 = pc') (w : (Cond.constantLong own i v).before a0 Z = true) (k : Wp p e below P T (mkF m pc' L (.long v :: S))) : Wp p e below P T (mkF m pc L S) := by
  subst hp; exact k.go fun t q => A.1.ldc2Long A.2.2.2.2.1 A.2.2.2.1 (mvT A.hZ w) (g := mkF m pc L S) rfl (hb A.2.2.2.2.2.1 hd) t q
theorem f_iadd (A : WS p l e R s m args below meth c Z EL n0 own code ml bw vm T h locs cells slots) {x y : Int32} (hd : decode code pc = .ok (.iadd, 1)) (hp : pc + 1 = pc') (z : Int32) (hz : x + y = z) (k : Wp p e below P T (mkF m pc' L (.int z :: S))) : Wp p e below P T (mkF m pc L (.int y :: .int x :: S)) := by
  subst hp hz; exact k.go fun _ q => XS.iadd A.1.here A.2.2.2.2.1 rfl (hb A.2.2.2.2.2.1 hd) rfl q
theorem f_isub (A : WS p l e R s m args below meth c Z EL n0 own code ml bw vm T h locs cells slots) {x y : Int32} (hd : decode code pc = .ok (.isub, 1)) (hp : pc + 1 = pc') (z : Int32) (hz : x - y = z) (k : Wp p e below P T (mkF m pc' L (.int z :: S))) : Wp p e below P T (mkF m pc L (.int y :: .int x :: S)) := by
  subst hp hz; exact k.go fun _ q => XS.isub A.1.here A.2.2.2.2.1 rfl (hb A.2.2.2.2.2.1 hd) rfl q
theorem f_imul (A : WS p l e R s m args below meth c Z EL n0 own code ml bw vm T h locs cells slots) {x y : Int32} (hd : decode code pc = .ok (.imul, 1)) (hp : pc + 1 = pc') (z : Int32) (hz : x * y = z) (k : Wp p e below P T (mkF m pc' L (.int z :: S))) : Wp p e below P T (mkF m pc L (.int y :: .int x :: S)) := by
  subst hp hz; exact k.go fun _ q => XS.imul A.1.here A.2.2.2.2.1 rfl (hb A.2.2.2.2.2.1 hd) rfl q
theorem f_iand (A : WS p l e R s m args below meth c Z EL n0 own code ml bw vm T h locs cells slots) {x y : Int32} (hd : decode code pc = .ok (.iand, 1)) (hp : pc + 1 = pc') (z : Int32) (hz : x &&& y = z) (k : Wp p e below P T (mkF m pc' L (.int z :: S))) : Wp p e below P T (mkF m pc L (.int y :: .int x :: S)) := by
  subst hp hz; exact k.go fun _ q => XS.iand A.1.here A.2.2.2.2.1 rfl (hb A.2.2.2.2.2.1 hd) rfl q
theorem f_ior (A : WS p l e R s m args below meth c Z EL n0 own code ml bw vm T h locs cells slots) {x y : Int32} (hd : decode code pc = .ok (.ior, 1)) (hp : pc + 1 = pc') (z : Int32) (hz : x ||| y = z) (k : Wp p e below P T (mkF m pc' L (.int z :: S))) : Wp p e below P T (mkF m pc L (.int y :: .int x :: S)) := by
  subst hp hz; exact k.go fun _ q => XS.ior A.1.here A.2.2.2.2.1 rfl (hb A.2.2.2.2.2.1 hd) rfl q
theorem f_ixor (A : WS p l e R s m args below meth c Z EL n0 own code ml bw vm T h locs cells slots) {x y : Int32} (hd : decode code pc = .ok (.ixor, 1)) (hp : pc + 1 = pc') (z : Int32) (hz : x ^^^ y = z) (k : Wp p e below P T (mkF m pc' L (.int z :: S))) : Wp p e below P T (mkF m pc L (.int y :: .int x :: S)) := by
  subst hp hz; exact k.go fun _ q => XS.ixor A.1.here A.2.2.2.2.1 rfl (hb A.2.2.2.2.2.1 hd) rfl q
theorem f_ishl (A : WS p l e R s m args below meth c Z EL n0 own code ml bw vm T h locs cells slots) {x y : Int32} (hd : decode code pc = .ok (.ishl, 1)) (hp : pc + 1 = pc') (z : Int32) (hz : x <<< (y &&& 31) = z) (k : Wp p e below P T (mkF m pc' L (.int z :: S))) : Wp p e below P T (mkF m pc L (.int y :: .int x :: S)) := by
  subst hp hz; exact k.go fun _ q => XS.ishl A.1.here A.2.2.2.2.1 rfl (hb A.2.2.2.2.2.1 hd) rfl q
theorem f_ishr (A : WS p l e R s m args below meth c Z EL n0 own code ml bw vm T h locs cells slots) {x y : Int32} (hd : decode code pc = .ok (.ishr, 1)) (hp : pc + 1 = pc') (z : Int32) (hz : x >>> (y &&& 31) = z) (k : Wp p e below P T (mkF m pc' L (.int z :: S))) : Wp p e below P T (mkF m pc L (.int y :: .int x :: S)) := by
  subst hp hz; exact k.go fun _ q => XS.ishr A.1.here A.2.2.2.2.1 rfl (hb A.2.2.2.2.2.1 hd) rfl q
theorem f_iushr (A : WS p l e R s m args below meth c Z EL n0 own code ml bw vm T h locs cells slots) {x y : Int32} (hd : decode code pc = .ok (.iushr, 1)) (hp : pc + 1 = pc') (z : Int32) (hz : (x.toUInt32 >>> (y &&& 31).toUInt32).toInt32 = z) (k : Wp p e below P T (mkF m pc' L (.int z :: S))) : Wp p e below P T (mkF m pc L (.int y :: .int x :: S)) := by
  subst hp hz; exact k.go fun _ q => XS.iushr A.1.here A.2.2.2.2.1 rfl (hb A.2.2.2.2.2.1 hd) rfl q
theorem f_ladd (A : WS p l e R s m args below meth c Z EL n0 own code ml bw vm T h locs cells slots) {x y : Int64} (hd : decode code pc = .ok (.ladd, 1)) (hp : pc + 1 = pc') (z : Int64) (hz : x + y = z) (k : Wp p e below P T (mkF m pc' L (.long z :: S))) : Wp p e below P T (mkF m pc L (.long y :: .long x :: S)) := by
  subst hp hz; exact k.go fun _ q => XS.ladd A.1.here A.2.2.2.2.1 rfl (hb A.2.2.2.2.2.1 hd) rfl q
theorem f_lsub (A : WS p l e R s m args below meth c Z EL n0 own code ml bw vm T h locs cells slots) {x y : Int64} (hd : decode code pc = .ok (.lsub, 1)) (hp : pc + 1 = pc') (z : Int64) (hz : x - y = z) (k : Wp p e below P T (mkF m pc' L (.long z :: S))) : Wp p e below P T (mkF m pc L (.long y :: .long x :: S)) := by
  subst hp hz; exact k.go fun _ q => XS.lsub A.1.here A.2.2.2.2.1 rfl (hb A.2.2.2.2.2.1 hd) rfl q
theorem f_lmul (A : WS p l e R s m args below meth c Z EL n0 own code ml bw vm T h locs cells slots) {x y : Int64} (hd : decode code pc = .ok (.lmul, 1)) (hp : pc + 1 = pc') (z : Int64) (hz : x * y = z) (k : Wp p e below P T (mkF m pc' L (.long z :: S))) : Wp p e below P T (mkF m pc L (.long y :: .long x :: S)) := by
  subst hp hz; exact k.go fun _ q => XS.lmul A.1.here A.2.2.2.2.1 rfl (hb A.2.2.2.2.2.1 hd) rfl q
theorem f_land (A : WS p l e R s m args below meth c Z EL n0 own code ml bw vm T h locs cells slots) {x y : Int64} (hd : decode code pc = .ok (.land, 1)) (hp : pc + 1 = pc') (z : Int64) (hz : x &&& y = z) (k : Wp p e below P T (mkF m pc' L (.long z :: S))) : Wp p e below P T (mkF m pc L (.long y :: .long x :: S)) := by
  subst hp hz; exact k.go fun _ q => XS.land A.1.here A.2.2.2.2.1 rfl (hb A.2.2.2.2.2.1 hd) rfl q
theorem f_lor (A : WS p l e R s m args below meth c Z EL n0 own code ml bw vm T h locs cells slots) {x y : Int64} (hd : decode code pc = .ok (.lor, 1)) (hp : pc + 1 = pc') (z : Int64) (hz : x ||| y = z) (k : Wp p e below P T (mkF m pc' L (.long z :: S))) : Wp p e below P T (mkF m pc L (.long y :: .long x :: S)) := by
  subst hp hz; exact k.go fun _ q => XS.lor A.1.here A.2.2.2.2.1 rfl (hb A.2.2.2.2.2.1 hd) rfl q
theorem f_lxor (A : WS p l e R s m args below meth c Z EL n0 own code ml bw vm T h locs cells slots) {x y : Int64} (hd : decode code pc = .ok (.lxor, 1)) (hp : pc + 1 = pc') (z : Int64) (hz : x ^^^ y = z) (k : Wp p e below P T (mkF m pc' L (.long z :: S))) : Wp p e below P T (mkF m pc L (.long y :: .long x :: S)) := by
  subst hp hz; exact k.go fun _ q => XS.lxor A.1.here A.2.2.2.2.1 rfl (hb A.2.2.2.2.2.1 hd) rfl q
theorem f_lshl (A : WS p l e R s m args below meth c Z EL n0 own code ml bw vm T h locs cells slots) {x : Int64} {y : Int32} (hd : decode code pc = .ok (.lshl, 1)) (hp : pc + 1 = pc') (z : Int64) (hz : x <<< (y &&& 63).toInt64 = z) (k : Wp p e below P T (mkF m pc' L (.long z :: S))) : Wp p e below P T (mkF m pc L (.int y :: .long x :: S)) := by
  subst hp hz; exact k.go fun _ q => XS.lshl A.1.here A.2.2.2.2.1 rfl (hb A.2.2.2.2.2.1 hd) rfl q
theorem f_lshr (A : WS p l e R s m args below meth c Z EL n0 own code ml bw vm T h locs cells slots) {x : Int64} {y : Int32} (hd : decode code pc = .ok (.lshr, 1)) (hp : pc + 1 = pc') (z : Int64) (hz : x >>> (y &&& 63).toInt64 = z) (k : Wp p e below P T (mkF m pc' L (.long z :: S))) : Wp p e below P T (mkF m pc L (.int y :: .long x :: S)) := by
  subst hp hz; exact k.go fun _ q => XS.lshr A.1.here A.2.2.2.2.1 rfl (hb A.2.2.2.2.2.1 hd) rfl q
theorem f_lushr (A : WS p l e R s m args below meth c Z EL n0 own code ml bw vm T h locs cells slots) {x : Int64} {y : Int32} (hd : decode code pc = .ok (.lushr, 1)) (hp : pc + 1 = pc') (z : Int64) (hz : (x.toUInt64 >>> (y &&& 0x3f).toInt64.toUInt64).toInt64 = z) (k : Wp p e below P T (mkF m pc' L (.long z :: S))) : Wp p e below P T (mkF m pc L (.int y :: .long x :: S)) := by
  subst hp hz; exact k.go fun _ q => XS.lushr A.1.here A.2.2.2.2.1 rfl (hb A.2.2.2.2.2.1 hd) rfl q
theorem f_idiv (A : WS p l e R s m args below meth c Z EL n0 own code ml bw vm T h locs cells slots) {x y : Int32} (hd : decode code pc = .ok (.idiv, 1)) (hp : pc + 1 = pc') (hy : y ≠ 0) (z : Int32) (hz : x / y = z) (k : Wp p e below P T (mkF m pc' L (.int z :: S))) : Wp p e below P T (mkF m pc L (.int y :: .int x :: S)) := by
  subst hp hz; exact k.go fun _ q => XS.idiv A.1.here A.2.2.2.2.1 rfl (hb A.2.2.2.2.2.1 hd) rfl hy q
theorem f_ldiv (A : WS p l e R s m args below meth c Z EL n0 own code ml bw vm T h locs cells slots) {x y : Int64} (hd : decode code pc = .ok (.ldiv, 1)) (hp : pc + 1 = pc') (hy : y ≠ 0) (z : Int64) (hz : x / y = z) (k : Wp p e below P T (mkF m pc' L (.long z :: S))) : Wp p e below P T (mkF m pc L (.long y :: .long x :: S)) := by
  subst hp hz; exact k.go fun _ q => XS.ldiv A.1.here A.2.2.2.2.1 rfl (hb A.2.2.2.2.2.1 hd) rfl hy q
theorem f_irem (A : WS p l e R s m args below meth c Z EL n0 own code ml bw vm T h locs cells slots) {x y : Int32} (hd : decode code pc = .ok (.irem, 1)) (hp : pc + 1 = pc') (hy : y ≠ 0) (z : Int32) (hz : x % y = z) (k : Wp p e below P T (mkF m pc' L (.int z :: S))) : Wp p e below P T (mkF m pc L (.int y :: .int x :: S)) := by
  subst hp hz; exact k.go fun _ q => iremM A.1 A.2.2.2.2.1 rfl (hb A.2.2.2.2.2.1 hd) rfl hy q
theorem f_lrem (A : WS p l e R s m args below meth c Z EL n0 own code ml bw vm T h locs cells slots) {x y : Int64} (hd : decode code pc = .ok (.lrem, 1)) (hp : pc + 1 = pc') (hy : y ≠ 0) (z : Int64) (hz : x % y = z) (k : Wp p e below P T (mkF m pc' L (.long z :: S))) : Wp p e below P T (mkF m pc L (.long y :: .long x :: S)) := by
  subst hp hz; exact k.go fun _ q => XS.lrem A.1.here A.2.2.2.2.1 rfl (hb A.2.2.2.2.2.1 hd) rfl hy (by rw [lrem_mod]; exact q)
theorem f_ineg (A : WS p l e R s m args below meth c Z EL n0 own code ml bw vm T h locs cells slots) {x : Int32} (hd : decode code pc = .ok (.ineg, 1)) (hp : pc + 1 = pc') (z : Int32) (hz : -x = z) (k : Wp p e below P T (mkF m pc' L (.int z :: S))) : Wp p e below P T (mkF m pc L (.int x :: S)) := by
  subst hp hz; exact k.go fun _ q => XS.ineg A.1.here A.2.2.2.2.1 rfl (hb A.2.2.2.2.2.1 hd) rfl q
theorem f_lneg (A : WS p l e R s m args below meth c Z EL n0 own code ml bw vm T h locs cells slots) {x : Int64} (hd : decode code pc = .ok (.lneg, 1)) (hp : pc + 1 = pc') (z : Int64) (hz : -x = z) (k : Wp p e below P T (mkF m pc' L (.long z :: S))) : Wp p e below P T (mkF m pc L (.long x :: S)) := by
  subst hp hz; exact k.go fun _ q => XS.lneg A.1.here A.2.2.2.2.1 rfl (hb A.2.2.2.2.2.1 hd) rfl q
theorem f_i2l (A : WS p l e R s m args below meth c Z EL n0 own code ml bw vm T h locs cells slots) {x : Int32} (hd : decode code pc = .ok (.i2l, 1)) (hp : pc + 1 = pc') (z : Int64) (hz : x.toInt64 = z) (k : Wp p e below P T (mkF m pc' L (.long z :: S))) : Wp p e below P T (mkF m pc L (.int x :: S)) := by
  subst hp hz; exact k.go fun _ q => XS.i2l A.1.here A.2.2.2.2.1 rfl (hb A.2.2.2.2.2.1 hd) rfl q
theorem f_l2i (A : WS p l e R s m args below meth c Z EL n0 own code ml bw vm T h locs cells slots) {x : Int64} (hd : decode code pc = .ok (.l2i, 1)) (hp : pc + 1 = pc') (z : Int32) (hz : x.toInt32 = z) (k : Wp p e below P T (mkF m pc' L (.int z :: S))) : Wp p e below P T (mkF m pc L (.long x :: S)) := by
  subst hp hz; exact k.go fun _ q => XS.l2i A.1.here A.2.2.2.2.1 rfl (hb A.2.2.2.2.2.1 hd) rfl q
theorem f_i2b (A : WS p l e R s m args below meth c Z EL n0 own code ml bw vm T h locs cells slots) {x : Int32} (hd : decode code pc = .ok (.i2b, 1)) (hp : pc + 1 = pc') (z : Int32) (hz : x.toInt8.toInt32 = z) (k : Wp p e below P T (mkF m pc' L (.int z :: S))) : Wp p e below P T (mkF m pc L (.int x :: S)) := by
  subst hp hz; exact k.go fun _ q => XS.i2b A.1.here A.2.2.2.2.1 rfl (hb A.2.2.2.2.2.1 hd) rfl q
theorem f_i2c (A : WS p l e R s m args below meth c Z EL n0 own code ml bw vm T h locs cells slots) {x : Int32} (hd : decode code pc = .ok (.i2c, 1)) (hp : pc + 1 = pc') (z : Int32) (hz : x.toUInt32.toUInt16.toUInt32.toInt32 = z) (k : Wp p e below P T (mkF m pc' L (.int z :: S))) : Wp p e below P T (mkF m pc L (.int x :: S)) := by
  subst hp hz; exact k.go fun _ q => XS.i2c A.1.here A.2.2.2.2.1 rfl (hb A.2.2.2.2.2.1 hd) rfl q
theorem f_i2s (A : WS p l e R s m args below meth c Z EL n0 own code ml bw vm T h locs cells slots) {x : Int32} (hd : decode code pc = .ok (.i2s, 1)) (hp : pc + 1 = pc') (z : Int32) (hz : x.toInt16.toInt32 = z) (k : Wp p e below P T (mkF m pc' L (.int z :: S))) : Wp p e below P T (mkF m pc L (.int x :: S)) := by
  subst hp hz; exact k.go fun _ q => XS.i2s A.1.here A.2.2.2.2.1 rfl (hb A.2.2.2.2.2.1 hd) rfl q
theorem f_lcmp (A : WS p l e R s m args below meth c Z EL n0 own code ml bw vm T h locs cells slots) {x y : Int64} (hd : decode code pc = .ok (.lcmp, 1)) (hp : pc + 1 = pc') (z : Int32) (hz : lcmpW x y = z) (k : Wp p e below P T (mkF m pc' L (.int z :: S))) : Wp p e below P T (mkF m pc L (.long y :: .long x :: S)) := by
  subst hp hz; exact k.go fun _ q => XS.lcmp A.1.here A.2.2.2.2.1 rfl (hb A.2.2.2.2.2.1 hd) rfl q
theorem f_iinc (A : WS p l e R s m args below meth c Z EL n0 own code ml bw vm T h locs cells slots) {i : Nat} {d : Int} {x : Int32} {L' : Array Slot} (hd : decode code pc = .ok (.iinc i d, 3)) (hp : pc + 3 = pc') (hl : L[i]? = some (.val (.int x))) (z : Int32) (hz : x + Int32.ofInt d = z) (hs : storeLocals L i (.int z) = some L') (k : Wp p e below P T (mkF m pc' L' S)) : Wp p e below P T (mkF m pc L S) := by
  subst hp hz; exact k.go fun _ q => XS.iinc A.1.here A.2.2.2.2.1 rfl (hb A.2.2.2.2.2.1 hd) hl hs q
theorem f_dup (A : WS p l e R s m args below meth c Z EL n0 own code ml bw vm T h locs cells slots) {x : Value} (hd : decode code pc = .ok (.dup, 1)) (hp : pc + 1 = pc') (hc : x.category = 1) (k : Wp p e below P T (mkF m pc' L (x :: x :: S))) : Wp p e below P T (mkF m pc L (x :: S)) := by
  subst hp; exact k.go fun _ q => XS.dup A.1.here A.2.2.2.2.1 rfl (hb A.2.2.2.2.2.1 hd) rfl hc q
theorem f_pop (A : WS p l e R s m args below meth c Z EL n0 own code ml bw vm T h locs cells slots) {x : Value} (hd : decode code pc = .ok (.pop, 1)) (hp : pc + 1 = pc') (hc : x.category = 1) (k : Wp p e below P T (mkF m pc' L S)) : Wp p e below P T (mkF m pc L (x :: S)) := by
  subst hp; exact k.go fun _ q => XS.pop A.1.here A.2.2.2.2.1 rfl (hb A.2.2.2.2.2.1 hd) rfl hc q
theorem f_dup_x1 (A : WS p l e R s m args below meth c Z EL n0 own code ml bw vm T h locs cells slots) {x y : Value} (hd : decode code pc = .ok (.dup_x1, 1)) (hp : pc + 1 = pc') (hc : x.category = 1) (hc' : y.category = 1) (k : Wp p e below P T (mkF m pc' L (x :: y :: x :: S))) : Wp p e below P T (mkF m pc L (x :: y :: S)) := by
  subst hp; exact k.go fun _ q => XS.dupX1 A.1.here A.2.2.2.2.1 rfl (hb A.2.2.2.2.2.1 hd) rfl hc hc' q
theorem f_goto (A : WS p l e R s m args below meth c Z EL n0 own code ml bw vm T h locs cells slots) {o : Int} (hd : decode code pc = .ok (.goto o, 3)) (ho : 0 ≤ (pc : Int) + o) (hp : ((pc : Int) + o).toNat = pc') (k : Wp p e below P T (mkF m pc' L S)) : Wp p e below P T (mkF m pc L S) := by
  exact k.go fun _ q => XS.goto A.1.here A.2.2.2.2.1 rfl (pc0 := pc) rfl (hb A.2.2.2.2.2.1 hd) ho hp q
theorem f_ifY (A : WS p l e R s m args below meth c Z EL n0 own code ml bw vm T h locs cells slots) {cd : ClassFile.Cond} {o : Int} {x : Int32} (hd : decode code pc = .ok (.ifCond cd o, 3)) (hc : ifCond.holds cd x = true) (ho : 0 ≤ (pc : Int) + o) (hp : ((pc : Int) + o).toNat = pc') (k : Wp p e below P T (mkF m pc' L S)) : Wp p e below P T (mkF m pc L (.int x :: S)) := by
  exact k.go fun _ q => XS.ifYes A.1.here A.2.2.2.2.1 rfl (pc0 := pc) rfl (hb A.2.2.2.2.2.1 hd) rfl hc ho hp q
theorem f_ifN (A : WS p l e R s m args below meth c Z EL n0 own code ml bw vm T h locs cells slots) {cd : ClassFile.Cond} {o : Int} {x : Int32} (hd : decode code pc = .ok (.ifCond cd o, 3)) (hc : ifCond.holds cd x = false) (hp : pc + 3 = pc') (k : Wp p e below P T (mkF m pc' L S)) : Wp p e below P T (mkF m pc L (.int x :: S)) := by
  subst hp; exact k.go fun _ q => XS.ifNo A.1.here A.2.2.2.2.1 rfl (hb A.2.2.2.2.2.1 hd) rfl hc q
theorem f_icY (A : WS p l e R s m args below meth c Z EL n0 own code ml bw vm T h locs cells slots) {cd : ClassFile.Cond} {o : Int} {x y : Int32} (hd : decode code pc = .ok (.if_icmp cd o, 3)) (hc : if_icmp.holds cd x y = true) (ho : 0 ≤ (pc : Int) + o) (hp : ((pc : Int) + o).toNat = pc') (k : Wp p e below P T (mkF m pc' L S)) : Wp p e below P T (mkF m pc L (.int y :: .int x :: S)) := by
  exact k.go fun _ q => XS.icmpYes A.1.here A.2.2.2.2.1 rfl (pc0 := pc) rfl (hb A.2.2.2.2.2.1 hd) rfl hc ho hp q
theorem f_icN (A : WS p l e R s m args below meth c Z EL n0 own code ml bw vm T h locs cells slots) {cd : ClassFile.Cond} {o : Int} {x y : Int32} (hd : decode code pc = .ok (.if_icmp cd o, 3)) (hc : if_icmp.holds cd x y = false) (hp : pc + 3 = pc') (k : Wp p e below P T (mkF m pc' L S)) : Wp p e below P T (mkF m pc L (.int y :: .int x :: S)) := by
  subst hp; exact k.go fun _ q => XS.icmpNo A.1.here A.2.2.2.2.1 rfl (hb A.2.2.2.2.2.1 hd) rfl hc q
theorem f_nullY (A : WS p l e R s m args below meth c Z EL n0 own code ml bw vm T h locs cells slots) {o : Int} (hd : decode code pc = .ok (.ifnull o, 3)) (ho : 0 ≤ (pc : Int) + o) (hp : ((pc : Int) + o).toNat = pc') (k : Wp p e below P T (mkF m pc' L S)) : Wp p e below P T (mkF m pc L (.null :: S)) := by
  exact k.go fun _ q => XS.ifnullYes A.1.here A.2.2.2.2.1 rfl (pc0 := pc) rfl (hb A.2.2.2.2.2.1 hd) rfl ho hp q
theorem f_nullN (A : WS p l e R s m args below meth c Z EL n0 own code ml bw vm T h locs cells slots) {o : Int} {b : Addr} (hd : decode code pc = .ok (.ifnull o, 3)) (hp : pc + 3 = pc') (k : Wp p e below P T (mkF m pc' L S)) : Wp p e below P T (mkF m pc L (.ref b :: S)) := by
  subst hp; exact k.go fun _ q => XS.ifnullNo A.1.here A.2.2.2.2.1 rfl (hb A.2.2.2.2.2.1 hd) rfl q
theorem f_nonY (A : WS p l e R s m args below meth c Z EL n0 own code ml bw vm T h locs cells slots) {o : Int} {b : Addr} (hd : decode code pc = .ok (.ifnonnull o, 3)) (ho : 0 ≤ (pc : Int) + o) (hp : ((pc : Int) + o).toNat = pc') (k : Wp p e below P T (mkF m pc' L S)) : Wp p e below P T (mkF m pc L (.ref b :: S)) := by
  exact k.go fun _ q => XS.ifnonnullYes A.1.here A.2.2.2.2.1 rfl (pc0 := pc) rfl (hb A.2.2.2.2.2.1 hd) rfl ho hp q
theorem f_nonN (A : WS p l e R s m args below meth c Z EL n0 own code ml bw vm T h locs cells slots) {o : Int} (hd : decode code pc = .ok (.ifnonnull o, 3)) (hp : pc + 3 = pc') (k : Wp p e below P T (mkF m pc' L S)) : Wp p e below P T (mkF m pc L (.null :: S)) := by
  subst hp; exact k.go fun _ q => XS.ifnonnullNo A.1.here A.2.2.2.2.1 rfl (hb A.2.2.2.2.2.1 hd) rfl q
theorem f_acmp (A : WS p l e R s m args below meth c Z EL n0 own code ml bw vm T h locs cells slots) {cd : ACond} {o : Int} {x y : Value} (h1 : x.isRef = true) (h2 : y.isRef = true) (hd : decode code pc = .ok (.if_acmp cd o, 3)) (same : Bool) (hq : decide (x = y) = same) (ho : 0 ≤ (pc : Int) + o) (hp : pc' = if acV cd same = true then ((pc : Int) + o).toNat else pc + 3) (k : Wp p e below P T (mkF m pc' L S)) : Wp p e below P T (mkF m pc L (y :: x :: S)) := by
  exact k.go fun _ q => Jvm.RoadKit.acmp A.1 A.2.2.2.2.1 rfl h1 h2 (pc0 := pc) rfl (hb A.2.2.2.2.2.1 hd) rfl hq ho hp q
theorem f_new (A : WS p l e R s m args below meth c Z EL n0 own code ml bw vm T h locs cells slots) {C : String} {i n : Nat} (hd : decode code pc = .ok (.new i, 3)) (hp : pc + 3 = pc') (w : (Cond.classLink own i C).before a0 Z = true) (wi : (Cond.instantiable C n).before a0 Z = true) (wz : (Cond.initialized C).before a0 Z = true) (hc : cells + 1 ≤ R.cells) (hl : slots + n ≤ R.slots)
    (k : ∀ (a : Addr) (T' : State) (h' : Heap), a = h.size → WS p l e R s m args below meth c Z EL n0 own code ml bw vm T' h' locs (cells + 1) (slots + n) → Ext h h' → Exa Z h' a C → (∀ {O nm d : String} {ty : FieldType}, Laid Z a0 C O nm d → parseFieldDescriptor d = some ty → Fld Z h' a O nm d (defaultValue ty)) → Wp p e below P T' (mkF m pc' L (.ref a :: S))) : Wp p e below P T (mkF m pc L S) := by
  subst hp
  obtain ⟨T', h', X', q, E, F, D, -, st⟩ := newO A.1 A.2.2.2.2.1 A.hZ A.2.2.2.1 w wi wz A.2.1 (g := mkF m pc L S) rfl (hb A.2.2.2.2.2.1 hd) hc hl
  exact (k _ T' h' rfl (A.grow X' q E) E F D).go st
theorem f_newP (A : WS p l e R s m args below meth c Z EL n0 own code ml bw vm T h locs cells slots) {aty : ArrayType} {z : Int32} (cap : Nat) (hd : decode code pc = .ok (.newarray aty, 2)) (hp : pc + 2 = pc') (w : (Cond.arrayClass (newarray.typeOf aty)).before a0 Z = true) (hn : ¬ z < 0) (hcap : z.toNatClampNeg ≤ cap) (hb8 : cap * 8 ≤ 536870912) (hc : cells + 1 ≤ R.cells) (hl : slots + cap ≤ R.slots) {ad : String} (had : "[" ++ (newarray.typeOf aty).toString = ad)
    (k : ∀ (a : Addr) (T' : State) (h' : Heap) (kA : ClassId), a = h.size → WS p l e R s m args below meth c Z EL n0 own code ml bw vm T' h' locs (cells + 1) (slots + cap) → Ext h h' → Arv Z h' a kA (newarray.typeOf aty) z [] (defaultValue (newarray.typeOf aty)) → Exa Z h' a ad → Wp p e below P T' (mkF m pc' L (.ref a :: S))) : Wp p e below P T (mkF m pc L (.int z :: S)) := by
  subst hp
  obtain ⟨T', h', kA, X', q, E, F, G, st⟩ := newPE A.1 A.2.2.2.2.1 A.hZ w A.2.1 (g := mkF m pc L (.int z :: S)) rfl (hb A.2.2.2.2.2.1 hd) rfl hn hcap hb8 hc hl had
  exact (k _ T' h' kA rfl (A.grow X' q E) E (Arv.new F hn) G).go st
theorem f_getF (A : WS p l e R s m args below meth c Z EL n0 own code ml bw vm T h locs cells slots) {R0 O n d host : String} {i : Nat} {a : Addr} {v : Value} (hd : decode code pc = .ok (.getfield i, 3)) (hp : pc + 3 = pc') (w : (Cond.fieldLink own i R0 n d).before a0 Z = true ∨ (Cond.fieldLinkNest own i R0 n d host).before a0 Z = true) (via : Via Z R0 O n d) (F : Fld Z h a O n d v)
    (k : ∀ (T' : State), WS p l e R s m args below meth c Z EL n0 own code ml bw vm T' h locs cells slots → Wp p e below P T' (mkF m pc' L (v :: S))) : Wp p e below P T (mkF m pc L (.ref a :: S)) := by
  subst hp
  obtain ⟨T', X', q, st⟩ := getF A.1 A.2.2.2.2.1 A.hZ A.2.2.2.1 w via A.2.1 F (g := mkF m pc L (.ref a :: S)) rfl rfl (hb A.2.2.2.2.2.1 hd)
  exact (k T' (A.still X' q)).go st
theorem f_getS (A : WS p l e R s m args below meth c Z EL n0 own code ml bw vm T h locs cells slots) {R0 O n d host : String} {i : Nat} {v : Value} (hd : decode code pc = .ok (.getstatic i, 3)) (hp : pc + 3 = pc') (w : (Cond.fieldLink own i R0 n d).before a0 Z = true ∨ (Cond.fieldLinkNest own i R0 n d host).before a0 Z = true) (via : Via Z R0 O n d) (F : Sta Z Z.heap O n d v)
    (k : ∀ (T' : State), WS p l e R s m args below meth c Z EL n0 own code ml bw vm T' h locs cells slots → Wp p e below P T' (mkF m pc' L (v :: S))) : Wp p e below P T (mkF m pc L S) := by
  subst hp
  obtain ⟨T', X', q, st⟩ := getS2 A.1 A.2.2.2.2.1 A.hZ A.2.2.2.1 w via A.2.1 (F.ext A.old.2) (g := mkF m pc L S) rfl (hb A.2.2.2.2.2.1 hd)
  exact (k T' (A.still X' q)).go st
theorem f_putF (A : WS p l e R s m args below meth c Z EL n0 own code ml bw vm T h locs cells slots) {R0 O n d C : String} {i kk : Nat} {ty : FieldType} {a : Addr} {v old : Value} (v' : Value) (hd : decode code pc = .ok (.putfield i, 3)) (hp : pc + 3 = pc') (w : (Cond.fieldLink own i R0 n d).before a0 Z = true) (via : Via Z R0 O n d) (F : Fld Z h a O n d old) (E : Exa Z h a C)
    (wl : (Cond.lays C O n d).before a0 Z = true ∨ ((Cond.laysFinal C O n d).before a0 Z = true ∧ own = O ∧ meth.name = "<init>")) (wi : (Cond.instantiable C kk).before a0 Z = true) (hty : parseFieldDescriptor d = some ty) (hn : narrow ty v = v') (hf : fits ty v' = true) (ga : n0 ≤ a) (sf : bw = true → Safe Z EL vm h a)
    (k : ∀ (T' : State) (h' : Heap), WS p l e R s m args below meth c Z EL n0 own code ml bw vm T' h' (locs ++ [⟨a, Jvm.RoadKit.slotOf Z O n d⟩]) cells slots → Wr h h' a (Jvm.RoadKit.slotOf Z O n d) v' → Keep h h' [a] → Exa Z h' a C → Fld Z h' a O n d v' → Wp p e below P T' (mkF m pc' L S)) : Wp p e below P T (mkF m pc L (v :: .ref a :: S)) := by
  subst hp
  obtain ⟨T', h', X', q, W, st⟩ := putFN A.1 A.2.2.2.2.1 A.hZ A.2.2.2.1 w via A.2.1 F E wl wi hty hn hf (g := mkF m pc L (v :: .ref a :: S)) rfl rfl (hb A.2.2.2.2.2.1 hd)
  exact (k T' h' (A.kept X' q (Fr.snoc X' A.2.2.2.2.2.2.2.1 ga) (Keep.of_wr W) (allS ga all0) (fun b => sfS (sf b) sf0)) W (Keep.of_wr W) (E.wr W) (F.same W)).go st
theorem f_castore (A : WS p l e R s m args below meth c Z EL n0 own code ml bw vm T h locs cells slots) {a : Addr} {kA : ClassId} {z j x : Int32} {vs vs' : List Value} {dv : Value} (hd : decode code pc = .ok (.castore, 1)) (hp : pc + 1 = pc') (F : Arv Z h a kA .char z vs dv) (hj : ¬ j < 0 ∧ j < z) (i : Nat) (hi : j.toNatClampNeg = i) (hl : i < vs.length) (v : Int32) (hv : nar .char x = v) (hs : vs.set i (.int v) = vs') (ga : n0 ≤ a) (sf : bw = true → Safe Z EL vm h a)
    (k : ∀ (T' : State) (h' : Heap), WS p l e R s m args below meth c Z EL n0 own code ml bw vm T' h' (locs ++ [⟨a, j.toNatClampNeg⟩]) cells slots → Keep h h' [a] → Arv Z h' a kA .char z vs' dv → Wp p e below P T' (mkF m pc' L S)) : Wp p e below P T (mkF m pc L (.int x :: .int j :: .ref a :: S)) := by
  subst hp hs hv
  obtain ⟨cl, Ar, q1, Sz, q3, H, G⟩ := F
  obtain ⟨T', h', X', q, W, st⟩ := stC A.1 A.2.2.2.2.1 A.hZ A.2.1 Ar (j := j) (inb_of Sz hj) (g := mkF m pc L (.int x :: .int j :: .ref a :: S)) rfl rfl (hb A.2.2.2.2.2.1 hd)
  exact (k T' h' (A.kept X' q (Fr.snoc X' A.2.2.2.2.2.2.2.1 ga) (Keep.of_wr W) (allS ga all0) (fun b => sfS (sf b) sf0)) (Keep.of_wr W) (Arv.set Ar q1 Sz q3 H G (fits_nar_char x) W i hi hl)).go st
theorem f_bastore (A : WS p l e R s m args below meth c Z EL n0 own code ml bw vm T h locs cells slots) {a : Addr} {kA : ClassId} {z j x : Int32} {vs vs' : List Value} {dv : Value} (hd : decode code pc = .ok (.bastore, 1)) (hp : pc + 1 = pc') (F : Arv Z h a kA .byte z vs dv) (hj : ¬ j < 0 ∧ j < z) (i : Nat) (hi : j.toNatClampNeg = i) (hl : i < vs.length) (v : Int32) (hv : x.toInt8.toInt32 = v) (hs : vs.set i (.int v) = vs') (ga : n0 ≤ a) (sf : bw = true → Safe Z EL vm h a)
    (k : ∀ (T' : State) (h' : Heap), WS p l e R s m args below meth c Z EL n0 own code ml bw vm T' h' (locs ++ [⟨a, j.toNatClampNeg⟩]) cells slots → Keep h h' [a] → Arv Z h' a kA .byte z vs' dv → Wp p e below P T' (mkF m pc' L S)) : Wp p e below P T (mkF m pc L (.int x :: .int j :: .ref a :: S)) := by
  subst hp hs hv
  obtain ⟨cl, Ar, q1, Sz, q3, H, G⟩ := F
  obtain ⟨T', h', X', q, W, st⟩ := stB A.1 A.2.2.2.2.1 A.hZ A.2.1 Ar (j := j) (inb_of Sz hj) (g := mkF m pc L (.int x :: .int j :: .ref a :: S)) rfl rfl (hb A.2.2.2.2.2.1 hd)
  exact (k T' h' (A.kept X' q (Fr.snoc X' A.2.2.2.2.2.2.2.1 ga) (Keep.of_wr W) (allS ga all0) (fun b => sfS (sf b) sf0)) (Keep.of_wr W) (Arv.set Ar q1 Sz q3 H G (fits_nar_byte x) W i hi hl)).go st
theorem f_iastore (A : WS p l e R s m args below meth c Z EL n0 own code ml bw vm T h locs cells slots) {a : Addr} {kA : ClassId} {z j x : Int32} {vs vs' : List Value} {dv : Value} (hd : decode code pc = .ok (.iastore, 1)) (hp : pc + 1 = pc') (F : Arv Z h a kA .int z vs dv) (hj : ¬ j < 0 ∧ j < z) (i : Nat) (hi : j.toNatClampNeg = i) (hl : i < vs.length) (v : Int32) (hv : x = v) (hs : vs.set i (.int v) = vs') (ga : n0 ≤ a) (sf : bw = true → Safe Z EL vm h a)
    (k : ∀ (T' : State) (h' : Heap), WS p l e R s m args below meth c Z EL n0 own code ml bw vm T' h' (locs ++ [⟨a, j.toNatClampNeg⟩]) cells slots → Keep h h' [a] → Arv Z h' a kA .int z vs' dv → Wp p e below P T' (mkF m pc' L S)) : Wp p e below P T (mkF m pc L (.int x :: .int j :: .ref a :: S)) := by
  subst hp hs hv
  obtain ⟨cl, Ar, q1, Sz, q3, H, G⟩ := F
  obtain ⟨T', h', X', q, W, st⟩ := stI A.1 A.2.2.2.2.1 A.hZ A.2.1 Ar (j := j) (inb_of Sz hj) (g := mkF m pc L (.int x :: .int j :: .ref a :: S)) rfl rfl (hb A.2.2.2.2.2.1 hd)
  exact (k T' h' (A.kept X' q (Fr.snoc X' A.2.2.2.2.2.2.2.1 ga) (Keep.of_wr W) (allS ga all0) (fun b => sfS (sf b) sf0)) (Keep.of_wr W) (Arv.set Ar q1 Sz q3 H G rfl W i hi hl)).go st
theorem f_caload (A : WS p l e R s m args below meth c Z EL n0 own code ml bw vm T h locs cells slots) {a : Addr} {kA : ClassId} {z j : Int32} {vs : List Value} {dv v : Value} (hd : decode code pc = .ok (.caload, 1)) (hp : pc + 1 = pc') (F : Arv Z h a kA .char z vs dv) (hj : ¬ j < 0 ∧ j < z) (hv : vs.getD j.toNatClampNeg dv = v) (k : Wp p e below P T (mkF m pc' L (v :: S))) : Wp p e below P T (mkF m pc L (.int j :: .ref a :: S)) := by
  subst hp
  obtain ⟨cl, Ar, q1, Sz, q3, H, G⟩ := F
  exact k.go fun t q => A.1.caload A.2.2.2.2.1 (j := j) (v := v) (by rw [A.2.1]; exact Ar.1) (State.isArrayOf_alike A.hZ.alike Ar.2.1) Ar.2.2 (inb_of Sz hj) (H.at (inb_of Sz hj) hv) (g := mkF m pc L (.int j :: .ref a :: S)) rfl rfl (hb A.2.2.2.2.2.1 hd) t q
theorem f_baload (A : WS p l e R s m args below meth c Z EL n0 own code ml bw vm T h locs cells slots) {a : Addr} {kA : ClassId} {z j : Int32} {vs : List Value} {dv v : Value} (hd : decode code pc = .ok (.baload, 1)) (hp : pc + 1 = pc') (F : Arv Z h a kA .byte z vs dv) (hj : ¬ j < 0 ∧ j < z) (hv : vs.getD j.toNatClampNeg dv = v) (k : Wp p e below P T (mkF m pc' L (v :: S))) : Wp p e below P T (mkF m pc L (.int j :: .ref a :: S)) := by
  subst hp
  obtain ⟨cl, Ar, q1, Sz, q3, H, G⟩ := F
  exact k.go fun t q => A.1.baloadBytes A.2.2.2.2.1 (j := j) (v := v) (by rw [A.2.1]; exact Ar.1) (State.isArrayOf_alike A.hZ.alike Ar.2.1) Ar.2.2 (inb_of Sz hj) (H.at (inb_of Sz hj) hv) (g := mkF m pc L (.int j :: .ref a :: S)) rfl rfl (hb A.2.2.2.2.2.1 hd) t q
theorem f_iaload (A : WS p l e R s m args below meth c Z EL n0 own code ml bw vm T h locs cells slots) {a : Addr} {kA : ClassId} {z j : Int32} {vs : List Value} {dv v : Value} (hd : decode code pc = .ok (.iaload, 1)) (hp : pc + 1 = pc') (F : Arv Z h a kA .int z vs dv) (hj : ¬ j < 0 ∧ j < z) (hv : vs.getD j.toNatClampNeg dv = v) (k : Wp p e below P T (mkF m pc' L (v :: S))) : Wp p e below P T (mkF m pc L (.int j :: .ref a :: S)) := by
  subst hp
  obtain ⟨cl, Ar, q1, Sz, q3, H, G⟩ := F
  exact k.go fun t q => A.1.iaload A.2.2.2.2.1 (j := j) (v := v) (by rw [A.2.1]; exact Ar.1) (State.isArrayOf_alike A.hZ.alike Ar.2.1) Ar.2.2 (inb_of Sz hj) (H.at (inb_of Sz hj) hv) (g := mkF m pc L (.int j :: .ref a :: S)) rfl rfl (hb A.2.2.2.2.2.1 hd) t q
theorem f_aaload (A : WS p l e R s m args below meth c Z EL n0 own code ml bw vm T h locs cells slots) {a : Addr} {kA : ClassId} {z j : Int32} {vs : List Value} {dv v : Value} {ty : FieldType} (hd : decode code pc = .ok (.aaload, 1)) (hp : pc + 1 = pc') (F : Arv Z h a kA ty z vs dv) (ht : ty.isReference = true) (hj : ¬ j < 0 ∧ j < z) (hv : vs.getD j.toNatClampNeg dv = v) (k : Wp p e below P T (mkF m pc' L (v :: S))) : Wp p e below P T (mkF m pc L (.int j :: .ref a :: S)) := by
  subst hp
  obtain ⟨cl, Ar, q1, Sz, q3, H, G⟩ := F
  exact k.go fun t q => A.1.aaload A.2.2.2.2.1 (j := j) (v := v) (by rw [A.2.1]; exact Ar.1) (State.isArrayOf_alike A.hZ.alike Ar.2.1) ht Ar.2.2 (inb_of Sz hj) (H.at (inb_of Sz hj) hv) (g := mkF m pc L (.int j :: .ref a :: S)) rfl rfl (hb A.2.2.2.2.2.1 hd) t q
theorem f_arraylength (A : WS p l e R s m args below meth c Z EL n0 own code ml bw vm T h locs cells slots) {a : Addr} {kA : ClassId} {z : Int32} {vs : List Value} {dv : Value} {ty : FieldType} (hd : decode code pc = .ok (.arraylength, 1)) (hp : pc + 1 = pc') (F : Arv Z h a kA ty z vs dv) (k : Wp p e below P T (mkF m pc' L (.int z :: S))) : Wp p e below P T (mkF m pc L (.ref a :: S)) := by
  subst hp
  obtain ⟨cl, Ar, q1, Sz, q3, -, -⟩ := F
  exact k.go fun t q => A.1.arraylength A.2.2.2.2.1 (by rw [A.2.1]; exact Ar.1) (State.isArrayOf_alike A.hZ.alike Ar.2.1) (g := mkF m pc L (.ref a :: S)) rfl rfl (hb A.2.2.2.2.2.1 hd) t (by rw [len_of Sz q3]; exact q)
theorem f_cast (A : WS p l e R s m args below meth c Z EL n0 own code ml bw vm T h locs cells slots) {K : String} {i : Nat} {a : Addr} (hd : decode code pc = .ok (.checkcast i, 3)) (hp : pc + 3 = pc') (w : (Cond.classLink own i K).before a0 Z = true) (F : Ins Z h a K true) (k : ∀ (T' : State), WS p l e R s m args below meth c Z EL n0 own code ml bw vm T' h locs cells slots → Wp p e below P T' (mkF m pc' L (.ref a :: S))) : Wp p e below P T (mkF m pc L (.ref a :: S)) := by
  subst hp
  obtain ⟨T', X', q, st⟩ := castY A.1 A.2.2.2.2.1 A.hZ A.2.2.2.1 w A.2.1 F (g := mkF m pc L (.ref a :: S)) rfl rfl (hb A.2.2.2.2.2.1 hd)
  exact (k T' (A.still X' q)).go st
theorem f_instY (A : WS p l e R s m args below meth c Z EL n0 own code ml bw vm T h locs cells slots) {K : String} {i : Nat} {a : Addr} (hd : decode code pc = .ok (.instanceof i, 3)) (hp : pc + 3 = pc') (w : (Cond.classLink own i K).before a0 Z = true) (F : Ins Z h a K true) (k : ∀ (T' : State), WS p l e R s m args below meth c Z EL n0 own code ml bw vm T' h locs cells slots → Wp p e below P T' (mkF m pc' L (.int 1 :: S))) : Wp p e below P T (mkF m pc L (.ref a :: S)) := by
  subst hp
  obtain ⟨T', X', q, st⟩ := instY A.1 A.2.2.2.2.1 A.hZ A.2.2.2.1 w A.2.1 F (g := mkF m pc L (.ref a :: S)) rfl rfl (hb A.2.2.2.2.2.1 hd)
  exact (k T' (A.still X' q)).go st
theorem f_initO (A : WS p l e R s m args below meth c Z EL n0 own code ml bw vm T h locs cells slots) {i W : Nat} {a : Addr} (hd : decode code pc = .ok (.invokespecial i, 3)) (hp : pc + 3 = pc') (w1 : (Cond.methodLink own i Lib.objectInit).before a0 Z = true) (w2 : (Cond.instanceMethod Lib.objectInit).before a0 Z = true) (w3 : (Cond.code Lib.objectInit ⟨#[0xb1]⟩ 1 none).before a0 Z = true) (hml : L.size = ml) (hf : 1 ≤ R.frames) (hW : (S.map fun v => v.category).sum ≤ W) (hl : W + 12 ≤ R.locals)
    (k : ∀ (T' : State), WS p l e R s m args below meth c Z EL n0 own code ml bw vm T' h locs cells slots → Wp p e below P T' (mkF m pc' L S)) : Wp p e below P T (mkF m pc L (.ref a :: S)) := by
  subst hp
  obtain ⟨T', X', q, st⟩ := initO A.1 A.2.2.2.2.1 A.hZ A.2.2.2.1 w1 w2 w3 A.2.1 (g := mkF m pc L (.ref a :: S)) rfl (hml.trans A.2.2.2.2.2.2.1.symm) rfl (hb A.2.2.2.2.2.1 hd) hf (W := W) (by show 2 * 0 + _ ≤ _; omega) hl
  exact (k T' (A.still X' q)).go st
theorem WS.wide (A : WS p l e R s m args below meth c Z EL n0 own code ml true vm T h locs cells slots) : (∃ k, s.Since vm k ∧ k ≤ h.size) ∧ CHr Z EL s.vm s.heap vm h := by
  obtain ⟨-, -, -, -, -, -, -, -, -, b⟩ := A
  rcases b with ⟨b, -⟩ | ⟨-, b⟩
  · cases b
  · exact b
theorem f_ldcO (A : WS p l e R s m args below meth c Z EL n0 own code ml true vm T h locs cells slots) {i : Nat} {text : String} (hd : decode code pc = .ok (.ldc i, 2)) (hp : pc + 2 = pc') (w : (Cond.stringLink own i text).before a0 Z = true) (wS : ∀ a ∈ Bundle.stringAtoms, a.before a0 Z = true) (hEL : EW Z a0 EL) {n : Nat} (hn : 4 * text.toList.length ≤ n) (hbig : n ≤ 536870912) (hc : cells + 2 ≤ R.cells) (hl' : slots + (n + 4) ≤ R.slots)
    (k : ∀ (a : Addr) (vm' : Vm) (T' : State) (h' : Heap), WS p l e R s m args below meth c Z EL n0 own code ml true vm' T' h' locs (cells + 2) (slots + (n + 4)) → Ext h h' → CHr Z EL vm h vm' h' → Lit (s.setVm vm') own i a → Wp p e below P T' (mkF m pc' L (.ref a :: S))) : Wp p e below P T (mkF m pc L S) := by
  subst hp
  obtain ⟨⟨k0, hS, hk⟩, hC⟩ := A.wide
  obtain ⟨a, T', h', k1, X', q, E, hS', hk', hZ', ho', hC', hL, st⟩ := ldcOH A.1 A.2.2.2.2.1 A.hZ A.2.2.2.1 w wS A.2.1 hS hk hEL hC.1 (g := mkF m pc L S) rfl (hb A.2.2.2.2.2.1 hd) hn hbig hc hl'
  exact (k a T'.vm T' h' ⟨X', q, hZ', ho', A.2.2.2.2.1, A.2.2.2.2.2.1, A.2.2.2.2.2.2.1, A.2.2.2.2.2.2.2.1, A.old.ext E, Or.inr ⟨rfl, ⟨k1, hS', hk'⟩, hC.trans hC'⟩⟩ E hC' hL).go st
theorem f_ldcC (A : WS p l e R s m args below meth c Z EL n0 own code ml true vm T h locs cells slots) {i : Nat} {text : String} {vs : List Value} {z : Int32} (hd : decode code pc = .ok (.ldc i, 2)) (hp : pc + 2 = pc') (hmem : (own, i) ∈ EL) (ht : (∀ c ∈ text.toList, c.toNat < 256) ∧ text.toList.map (fun c => Value.int (Jvm.Lit.byteI c.toNat.toUInt16)) = vs) (hz : ¬ z < 0) (hl : z.toNatClampNeg = vs.length) (w : (Cond.stringLink own i text).before a0 Z = true) (wS : ∀ a ∈ Bundle.stringAtoms, a.before a0 Z = true) (hEL : EW Z a0 EL) {n : Nat} (hn : 4 * text.toList.length ≤ n) (hbig : n ≤ 536870912) (hc : cells + 2 ≤ R.cells) (hl' : slots + (n + 4) ≤ R.slots)
    (k : ∀ (a b : Addr) (kb : ClassId) (vm' : Vm) (T' : State) (h' : Heap), WS p l e R s m args below meth c Z EL n0 own code ml true vm' T' h' locs (cells + 2) (slots + (n + 4)) → Ext h h' → CHr Z EL vm h vm' h' → Lit (s.setVm vm') own i a → Exa Z h' a "java/lang/String" → Fld Z h' a "java/lang/String" "coder" "B" (.int 0) → Fld Z h' a "java/lang/String" "value" "[B" (.ref b) → Arv Z h' b kb .byte z vs (.int 0) → (∀ x, Safe Z EL vm' h' x → x ≠ a ∧ x ≠ b) → Wp p e below P T' (mkF m pc' L (.ref a :: S))) : Wp p e below P T (mkF m pc L S) := by
  subst hp
  obtain ⟨⟨k0, hS, hk⟩, hC⟩ := A.wide
  obtain ⟨a, T', h', k1, b, kb, X', q, E, hS', hk', hZ', ho', g1, g2, g3, g4, -, -, hC', hL, hsf, st⟩ := ldcCH A.1 A.2.2.2.2.1 A.hZ A.2.2.2.1 w wS A.2.1 hS hk hEL hmem hC.1 ht hz hl (g := mkF m pc L S) rfl (hb A.2.2.2.2.2.1 hd) hn hbig hc hl'
  exact (k a b kb T'.vm T' h' ⟨X', q, hZ', ho', A.2.2.2.2.1, A.2.2.2.2.2.1, A.2.2.2.2.2.2.1, A.2.2.2.2.2.2.2.1, A.old.ext E, Or.inr ⟨rfl, ⟨k1, hS', hk'⟩, hC.trans hC'⟩⟩ E hC' hL g1 g2 g3 g4 hsf).go st
theorem f_ldcA (A : WS p l e R s m args below meth c Z EL n0 own code ml true vm T h locs cells slots) {i : Nat} {text : String} {a : Addr} (hd : decode code pc = .ok (.ldc i, 2)) (hp : pc + 2 = pc') (w : (Cond.stringLink own i text).before a0 Z = true) (hL : Lit (s.setVm vm) own i a) (k : Wp p e below P T (mkF m pc' L (.ref a :: S))) : Wp p e below P T (mkF m pc L S) := by
  subst hp
  exact k.go fun t q => ldcAgain A.1 A.2.2.2.2.1 A.hZ A.2.2.2.1 w hL (g := mkF m pc L S) rfl (hb A.2.2.2.2.2.1 hd) t q
/-- what a body that interns nothing promises -/
abbrev CN (l : Launch) (y : MethodName) (bytes : ByteArray) (maxL : Nat) (ret : Option FieldType) (ws : List Jvm.Cond) (rm : Room) (Z : State) (n0 : Nat) (h : Heap) (as' : Array Value) (wr : List Addr) (Q : Option Value → Heap → Prop) : Prop :=
  MetFree l y (head1 (Jvm.Cond.code y bytes maxL ret :: ws) rm) (fun a U => a = as' ∧ Z.Warmed39 U.vm ∧ U.heap = h) (fun _ _ _ _ _ => True) (fun _ U o U' => ∃ v L, o = .returned v ∧ (Fr n0 L ∧ Keep h U'.heap wr ∧ Q v U'.heap) ∧ FrameEnd U o U' L rm.cells rm.slots)
/-- what a body that may intern promises; SL: what it writes of the booked kinds -/
abbrev CW (l : Launch) (y : MethodName) (bytes : ByteArray) (maxL : Nat) (ret : Option FieldType) (ws : List Jvm.Cond) (rm : Room) (Z : State) (EL : List (String × Nat)) (SL : List Addr) (n0 : Nat) (h : Heap) (as' : Array Value) (wr : List Addr) (Q : Option Value → Heap → Prop) : Prop :=
  MetFree l y (head1 (Jvm.Cond.code y bytes maxL ret :: ws) rm) (fun a U => a = as' ∧ Z.Warmed39 U.vm ∧ U.heap = h ∧ CHv Z EL U.vm h ∧ ∀ x ∈ SL, Safe Z EL U.vm h x) (fun _ _ _ _ _ => True) (fun _ U o U' => ∃ v L, o = .returned v ∧ (Fr n0 L ∧ Keep h U'.heap wr ∧ Q v U'.heap) ∧ CHr Z EL U.vm U.heap U'.vm U'.heap ∧ ReturnedEndW U o U' L rm.cells rm.slots)
abbrev PN (s : State) (n0 : Nat) (h : Heap) (wr : List Addr) (Q : Option Value → Heap → Prop) (kc ks : Nat) : Outcome → State → Prop := fun o t => ∃ v L, o = .returned v ∧ (Fr n0 L ∧ Keep h t.heap wr ∧ Q v t.heap) ∧ FrameEnd s o t L kc ks
abbrev PW (s Z : State) (EL : List (String × Nat)) (n0 : Nat) (h : Heap) (wr : List Addr) (Q : Option Value → Heap → Prop) (kc ks : Nat) : Outcome → State → Prop := fun o t => ∃ v L, o = .returned v ∧ (Fr n0 L ∧ Keep h t.heap wr ∧ Q v t.heap) ∧ CHr Z EL s.vm s.heap t.vm t.heap ∧ ReturnedEndW s o t L kc ks
/-- the walk of a body that interns nothing -/
theorem CN.walk {y : MethodName} {bytes : ByteArray} {maxL : Nat} {ret : Option FieldType} {ws : List Jvm.Cond} {rm : Room} {h0 : Heap} {as' : Array Value} {wr : List Addr} {Q : Option Value → Heap → Prop} {L0 : Array Slot} (hpl : plainFor y = true) (ho : Old Z n0 h0) (hef : ∀ m, entryFrame m as' maxL = mkF m 0 L0 [])
    (k : ∀ p e s m below meth c T, meth.locks = false → meth.sig.returnType = ret → meth.name = y.name → WS p l e rm s m as' below meth c Z [] n0 y.cls bytes maxL false s.vm T h0 [] 0 0 → Wp p e below (PN s n0 h0 wr Q rm.cells rm.slots) T (mkF m 0 L0 [])) : CN l y bytes maxL ret ws rm Z n0 h0 as' wr Q := by
  refine MetFree.of_bodySF hpl hisR ?_
  intro p e s m args below meth c s₁ Bd hml0 hP hK
  obtain ⟨rfl, hZ, hh⟩ := hP
  have X0 : Stand p l e rm s m args below meth c s₁ [] 0 0 := Stand.of_body Bd
  obtain ⟨s₂, o, a1, a2⟩ := k p e s m below meth c s₁ (BodyLoose.notSynchronized Bd) Bd.returns (name_of_methodNamed Bd.named Bd.method).1 ⟨X0, by rw [← hh, Bd.state]; rfl, hZ, findClass_of_methodNamed Bd.named, Bd.exec, Bd.bytes, hml0, Fr.nil n0, ho, Or.inl ⟨rfl, rfl⟩⟩
  exact ⟨s₂, o, castTop (hef m) a1, a2⟩
/-- the walk of a body that may intern -/
theorem CW.walk {y : MethodName} {bytes : ByteArray} {maxL : Nat} {ret : Option FieldType} {ws : List Jvm.Cond} {rm : Room} {h0 : Heap} {as' : Array Value} {wr SL : List Addr} {Q : Option Value → Heap → Prop} {L0 : Array Slot} (hpl : plainFor y = true) (ho : Old Z n0 h0) (hef : ∀ m, entryFrame m as' maxL = mkF m 0 L0 [])
    (k : ∀ p e s m below meth c T, meth.locks = false → meth.sig.returnType = ret → meth.name = y.name → (∀ x ∈ SL, Safe Z EL s.vm h0 x) → WS p l e rm s m as' below meth c Z EL n0 y.cls bytes maxL true s.vm T h0 [] 0 0 → Wp p e below (PW s Z EL n0 h0 wr Q rm.cells rm.slots) T (mkF m 0 L0 [])) : CW l y bytes maxL ret ws rm Z EL SL n0 h0 as' wr Q := by
  refine MetFree.of_bodySF hpl hisR ?_
  intro p e s m args below meth c s₁ Bd hml0 hP hK
  obtain ⟨rfl, hZ, hh, hC, hSL⟩ := hP
  have X0 : Stand p l e rm s m args below meth c s₁ [] 0 0 := Stand.of_body Bd
  subst hh
  obtain ⟨s₂, o, a1, a2⟩ := k p e s m below meth c s₁ (BodyLoose.notSynchronized Bd) Bd.returns (name_of_methodNamed Bd.named Bd.method).1 hSL ⟨X0, by rw [Bd.state]; rfl, hZ, findClass_of_methodNamed Bd.named, Bd.exec, Bd.bytes, hml0, Fr.nil n0, ho, Or.inr ⟨rfl, ⟨_, (State.WarmedH.refl s).since s.heap.size, Nat.le_refl _⟩, CHr.refl hC⟩⟩
  exact ⟨s₂, o, castTop (hef m) a1, a2⟩
theorem f_retN (A : WS p l e R s m args below meth c Z EL n0 own code ml false vm T h locs cells slots) {h0 : Heap} {wr : List Addr} {Q : Option Value → Heap → Prop} {kc ks : Nat} (hlk : meth.locks = false) (hret : meth.sig.returnType = none) (hd : decode code pc = .ok (.return_, 1))  (hc : cells ≤ kc) (hs : slots ≤ ks) (K : Keep h0 h wr) (q : Q (none) h) : Wp p e below (PN s n0 h0 wr Q kc ks) T (mkF m pc L []) := by
  obtain ⟨X, rfl, -, -, hx, hby, -, N, -, b⟩ := A
  obtain ⟨-, rfl⟩ : false = false ∧ vm = s.vm := b.elim id fun b => by cases b.1
  have X : Stand p l e R s m args below meth c T locs cells slots := X
  obtain ⟨fs, hr, hrun, hended, hW, hsame⟩ := X.leave (v := none) (by intro _; rfl) hlk
  refine ⟨_, _, ?_, hrun, hended, _, _, rfl, ⟨N, K, q⟩, ⟨_, rfl⟩, hW, hsame.mono hc hs⟩
  exact X.returnOut hx hret (hb hby hd) hr
theorem f_retW (A : WS p l e R s m args below meth c Z EL n0 own code ml true vm T h locs cells slots) {a0 : Array Value} (hEL : EW Z a0 EL) {h0 : Heap} {wr : List Addr} {Q : Option Value → Heap → Prop} {kc ks : Nat} (hlk : meth.locks = false) (hret : meth.sig.returnType = none) (hd : decode code pc = .ok (.return_, 1))  (hc : cells ≤ kc) (hs : slots ≤ ks) (K : Keep h0 h wr) (q : Q (none) h) : Wp p e below (PW s Z EL n0 h0 wr Q kc ks) T (mkF m pc L []) := by
  obtain ⟨⟨k0, hS, hk⟩, hC⟩ := A.wide
  obtain ⟨X, rfl, hZ, -, hx, hby, -, N, -, -⟩ := A
  obtain ⟨fs, hr, hrun, hended, hW⟩ := X.leaveW hS hk (v := none) (by intro _; rfl) hlk
  refine ⟨_, _, ?_, hrun, hended, _, _, rfl, ⟨N, K, q⟩, hC.trans (show CHr Z EL vm T.heap T.vm T.heap from CHv.at X hZ hEL hC.1), hW.1, hW.2.1, hW.2.2.1, hW.2.2.2.mono hc hs⟩
  exact X.returnOut hx hret (hb hby hd) hr
theorem f_retIN (A : WS p l e R s m args below meth c Z EL n0 own code ml false vm T h locs cells slots) {h0 : Heap} {wr : List Addr} {Q : Option Value → Heap → Prop} {kc ks : Nat} (hlk : meth.locks = false) (hret : meth.sig.returnType = some .int) (hd : decode code pc = .ok (.ireturn, 1)) {z : Int32} (hc : cells ≤ kc) (hs : slots ≤ ks) (K : Keep h0 h wr) (q : Q (some (.int z)) h) : Wp p e below (PN s n0 h0 wr Q kc ks) T (mkF m pc L (.int z :: S)) := by
  obtain ⟨X, rfl, -, -, hx, hby, -, N, -, b⟩ := A
  obtain ⟨-, rfl⟩ : false = false ∧ vm = s.vm := b.elim id fun b => by cases b.1
  have X : Stand p l e R s m args below meth c T locs cells slots := X
  obtain ⟨fs, hr, hrun, hended, hW, hsame⟩ := X.leave (v := some (.int z)) (by intro h; rw [hret] at h; cases h) hlk
  refine ⟨_, _, ?_, hrun, hended, _, _, rfl, ⟨N, K, q⟩, ⟨_, rfl⟩, hW, hsame.mono hc hs⟩
  exact retOut X hx hret rfl (Or.inl ⟨rfl, Or.inl rfl, z, rfl⟩) (hb hby hd) hr
theorem f_retIW (A : WS p l e R s m args below meth c Z EL n0 own code ml true vm T h locs cells slots) {a0 : Array Value} (hEL : EW Z a0 EL) {h0 : Heap} {wr : List Addr} {Q : Option Value → Heap → Prop} {kc ks : Nat} (hlk : meth.locks = false) (hret : meth.sig.returnType = some .int) (hd : decode code pc = .ok (.ireturn, 1)) {z : Int32} (hc : cells ≤ kc) (hs : slots ≤ ks) (K : Keep h0 h wr) (q : Q (some (.int z)) h) : Wp p e below (PW s Z EL n0 h0 wr Q kc ks) T (mkF m pc L (.int z :: S)) := by
  obtain ⟨⟨k0, hS, hk⟩, hC⟩ := A.wide
  obtain ⟨X, rfl, hZ, -, hx, hby, -, N, -, -⟩ := A
  obtain ⟨fs, hr, hrun, hended, hW⟩ := X.leaveW hS hk (v := some (.int z)) (by intro h; rw [hret] at h; cases h) hlk
  refine ⟨_, _, ?_, hrun, hended, _, _, rfl, ⟨N, K, q⟩, hC.trans (show CHr Z EL vm T.heap T.vm T.heap from CHv.at X hZ hEL hC.1), hW.1, hW.2.1, hW.2.2.1, hW.2.2.2.mono hc hs⟩
  exact retOut X hx hret rfl (Or.inl ⟨rfl, Or.inl rfl, z, rfl⟩) (hb hby hd) hr
theorem f_retBN (A : WS p l e R s m args below meth c Z EL n0 own code ml false vm T h locs cells slots) {h0 : Heap} {wr : List Addr} {Q : Option Value → Heap → Prop} {kc ks : Nat} (hlk : meth.locks = false) {t : FieldType} (hret : meth.sig.returnType = some t) (hd : decode code pc = .ok (.ireturn, 1)) {z : Int32} (ht : t = .boolean ∨ t = .byte ∨ t = .char ∨ t = .short) (z' : Int32) (hz : nar t z = z') (hc : cells ≤ kc) (hs : slots ≤ ks) (K : Keep h0 h wr) (q : Q (some (.int z')) h) : Wp p e below (PN s n0 h0 wr Q kc ks) T (mkF m pc L (.int z :: S)) := by
  obtain ⟨X, rfl, -, -, hx, hby, -, N, -, b⟩ := A
  obtain ⟨-, rfl⟩ : false = false ∧ vm = s.vm := b.elim id fun b => by cases b.1
  have X : Stand p l e R s m args below meth c T locs cells slots := X
  obtain ⟨fs, hr, hrun, hended, hW, hsame⟩ := X.leave (v := some (.int z')) (by intro h; rw [hret] at h; cases h) hlk
  refine ⟨_, _, ?_, hrun, hended, _, _, rfl, ⟨N, K, q⟩, ⟨_, rfl⟩, hW, hsame.mono hc hs⟩
  subst hz; exact retN X hx hret ht (hb hby hd) hr
theorem f_retBW (A : WS p l e R s m args below meth c Z EL n0 own code ml true vm T h locs cells slots) {a0 : Array Value} (hEL : EW Z a0 EL) {h0 : Heap} {wr : List Addr} {Q : Option Value → Heap → Prop} {kc ks : Nat} (hlk : meth.locks = false) {t : FieldType} (hret : meth.sig.returnType = some t) (hd : decode code pc = .ok (.ireturn, 1)) {z : Int32} (ht : t = .boolean ∨ t = .byte ∨ t = .char ∨ t = .short) (z' : Int32) (hz : nar t z = z') (hc : cells ≤ kc) (hs : slots ≤ ks) (K : Keep h0 h wr) (q : Q (some (.int z')) h) : Wp p e below (PW s Z EL n0 h0 wr Q kc ks) T (mkF m pc L (.int z :: S)) := by
  obtain ⟨⟨k0, hS, hk⟩, hC⟩ := A.wide
  obtain ⟨X, rfl, hZ, -, hx, hby, -, N, -, -⟩ := A
  obtain ⟨fs, hr, hrun, hended, hW⟩ := X.leaveW hS hk (v := some (.int z')) (by intro h; rw [hret] at h; cases h) hlk
  refine ⟨_, _, ?_, hrun, hended, _, _, rfl, ⟨N, K, q⟩, hC.trans (show CHr Z EL vm T.heap T.vm T.heap from CHv.at X hZ hEL hC.1), hW.1, hW.2.1, hW.2.2.1, hW.2.2.2.mono hc hs⟩
  subst hz; exact retN X hx hret ht (hb hby hd) hr
theorem f_retJN (A : WS p l e R s m args below meth c Z EL n0 own code ml false vm T h locs cells slots) {h0 : Heap} {wr : List Addr} {Q : Option Value → Heap → Prop} {kc ks : Nat} (hlk : meth.locks = false) (hret : meth.sig.returnType = some .long) (hd : decode code pc = .ok (.lreturn, 1)) {z : Int64} (hc : cells ≤ kc) (hs : slots ≤ ks) (K : Keep h0 h wr) (q : Q (some (.long z)) h) : Wp p e below (PN s n0 h0 wr Q kc ks) T (mkF m pc L (.long z :: S)) := by
  obtain ⟨X, rfl, -, -, hx, hby, -, N, -, b⟩ := A
  obtain ⟨-, rfl⟩ : false = false ∧ vm = s.vm := b.elim id fun b => by cases b.1
  have X : Stand p l e R s m args below meth c T locs cells slots := X
  obtain ⟨fs, hr, hrun, hended, hW, hsame⟩ := X.leave (v := some (.long z)) (by intro h; rw [hret] at h; cases h) hlk
  refine ⟨_, _, ?_, hrun, hended, _, _, rfl, ⟨N, K, q⟩, ⟨_, rfl⟩, hW, hsame.mono hc hs⟩
  exact retOut X hx hret rfl (Or.inr (Or.inl ⟨rfl, rfl, z, rfl⟩)) (hb hby hd) hr
theorem f_retJW (A : WS p l e R s m args below meth c Z EL n0 own code ml true vm T h locs cells slots) {a0 : Array Value} (hEL : EW Z a0 EL) {h0 : Heap} {wr : List Addr} {Q : Option Value → Heap → Prop} {kc ks : Nat} (hlk : meth.locks = false) (hret : meth.sig.returnType = some .long) (hd : decode code pc = .ok (.lreturn, 1)) {z : Int64} (hc : cells ≤ kc) (hs : slots ≤ ks) (K : Keep h0 h wr) (q : Q (some (.long z)) h) : Wp p e below (PW s Z EL n0 h0 wr Q kc ks) T (mkF m pc L (.long z :: S)) := by
  obtain ⟨⟨k0, hS, hk⟩, hC⟩ := A.wide
  obtain ⟨X, rfl, hZ, -, hx, hby, -, N, -, -⟩ := A
  obtain ⟨fs, hr, hrun, hended, hW⟩ := X.leaveW hS hk (v := some (.long z)) (by intro h; rw [hret] at h; cases h) hlk
  refine ⟨_, _, ?_, hrun, hended, _, _, rfl, ⟨N, K, q⟩, hC.trans (show CHr Z EL vm T.heap T.vm T.heap from CHv.at X hZ hEL hC.1), hW.1, hW.2.1, hW.2.2.1, hW.2.2.2.mono hc hs⟩
  exact retOut X hx hret rfl (Or.inr (Or.inl ⟨rfl, rfl, z, rfl⟩)) (hb hby hd) hr
theorem f_retRN (A : WS p l e R s m args below meth c Z EL n0 own code ml false vm T h locs cells slots) {h0 : Heap} {wr : List Addr} {Q : Option Value → Heap → Prop} {kc ks : Nat} (hlk : meth.locks = false) {t : FieldType} (hret : meth.sig.returnType = some t) (hd : decode code pc = .ok (.areturn, 1)) {z : Value} (ht : t.isReference = true) (hz : z.isRef = true) (hc : cells ≤ kc) (hs : slots ≤ ks) (K : Keep h0 h wr) (q : Q (some z) h) : Wp p e below (PN s n0 h0 wr Q kc ks) T (mkF m pc L (z :: S)) := by
  obtain ⟨X, rfl, -, -, hx, hby, -, N, -, b⟩ := A
  obtain ⟨-, rfl⟩ : false = false ∧ vm = s.vm := b.elim id fun b => by cases b.1
  have X : Stand p l e R s m args below meth c T locs cells slots := X
  obtain ⟨fs, hr, hrun, hended, hW, hsame⟩ := X.leave (v := some z) (by intro h; rw [hret] at h; cases h) hlk
  refine ⟨_, _, ?_, hrun, hended, _, _, rfl, ⟨N, K, q⟩, ⟨_, rfl⟩, hW, hsame.mono hc hs⟩
  exact retOut X hx hret (by cases t <;> cases z <;> first | rfl | cases ht | cases hz) (Or.inr (Or.inr (Or.inr (Or.inr ⟨rfl, ht, hz⟩)))) (hb hby hd) hr
theorem f_retRW (A : WS p l e R s m args below meth c Z EL n0 own code ml true vm T h locs cells slots) {a0 : Array Value} (hEL : EW Z a0 EL) {h0 : Heap} {wr : List Addr} {Q : Option Value → Heap → Prop} {kc ks : Nat} (hlk : meth.locks = false) {t : FieldType} (hret : meth.sig.returnType = some t) (hd : decode code pc = .ok (.areturn, 1)) {z : Value} (ht : t.isReference = true) (hz : z.isRef = true) (hc : cells ≤ kc) (hs : slots ≤ ks) (K : Keep h0 h wr) (q : Q (some z) h) : Wp p e below (PW s Z EL n0 h0 wr Q kc ks) T (mkF m pc L (z :: S)) := by
  obtain ⟨⟨k0, hS, hk⟩, hC⟩ := A.wide
  obtain ⟨X, rfl, hZ, -, hx, hby, -, N, -, -⟩ := A
  obtain ⟨fs, hr, hrun, hended, hW⟩ := X.leaveW hS hk (v := some z) (by intro h; rw [hret] at h; cases h) hlk
  refine ⟨_, _, ?_, hrun, hended, _, _, rfl, ⟨N, K, q⟩, hC.trans (show CHr Z EL vm T.heap T.vm T.heap from CHv.at X hZ hEL hC.1), hW.1, hW.2.1, hW.2.2.1, hW.2.2.2.mono hc hs⟩
  exact retOut X hx hret (by cases t <;> cases z <;> first | rfl | cases ht | cases hz) (Or.inr (Or.inr (Or.inr (Or.inr ⟨rfl, ht, hz⟩)))) (hb hby hd) hr
theorem f_callS (A : WS p l e R s m args below meth c Z EL n0 own code ml bw vm T h locs cells slots) {i : Nat} {y : MethodName} {bytes : ByteArray} {maxL : Nat} {ret : Option FieldType} {wr : List Addr} {Q : Option Value → Heap → Prop} {kc ks : Nat} (hd : decode code pc = .ok (.invokestatic i, 3)) (hp : pc + 3 = pc') (w1 : (Cond.methodLink own i y).before a0 Z = true) (w2 : (Cond.static y).before a0 Z = true) (w3 : (Cond.initialized y.cls).before a0 Z = true) (w4 : (Cond.code y bytes maxL ret).before a0 Z = true) (hy : y.cls ≠ "java/lang/invoke/MethodHandle" ∧ y.cls ≠ "java/lang/invoke/VarHandle")
    {ps : List FieldType} {r : Option FieldType} (pd : parseMethodDescriptor y.desc = some ⟨ps, r⟩) (argsL rest : List Value) (hal : argsL.length = ps.length) (hS : S = argsL.reverse ++ rest) (hml : L.size = ml) (W : Nat) (hW : (rest.map fun v => v.category).sum ≤ W) (hK : BkN l R p e below (s.setVm vm) args y 3 W argsL.toArray h n0 wr Q kc ks) (hc : cells + kc ≤ R.cells) (hs : slots + ks ≤ R.slots) (hn : ∀ x ∈ wr, n0 ≤ x) (sf : bw = true → ∀ x ∈ wr, Safe Z EL vm h x)
    (k : ∀ (v : Option Value) (T' : State) (h' : Heap) (L' : List Loc), WS p l e R s m args below meth c Z EL n0 own code ml bw vm T' h' (locs ++ L') (cells + kc) (slots + ks) → Keep h h' wr → Q v h' → Wp p e below P T' (mkF m pc' L (v.toList ++ rest))) : Wp p e below P T (mkF m pc L S) := by
  subst hp hS
  obtain ⟨v, _, ⟨T', L1, k1, n1⟩, -, X', ⟨L', ⟨N, K, q⟩, l1, y1, z1⟩, st⟩ := Jvm.LawKit.callS A.1 A.2.2.2.2.1 (y := y) A.2.2.2.1 (mvT A.hZ w1) (mvT A.hZ w2) (mvT A.hZ w3) (mvT A.hZ w4) hy hK (g := mkF m pc L (argsL.reverse ++ rest)) rfl (hml.trans A.2.2.2.2.2.2.1.symm) (argsL := argsL) (rest := rest) (lenOf pd hal) rfl (by show 2 * 0 + _ ≤ _; omega) (hb A.2.2.2.2.2.1 hd) (fun _ _ => ⟨rfl, A.2.1, hc, hs⟩)
  dsimp only [Pt.U, Pt.locs, Pt.cells, Pt.slots] at X' l1 y1 z1 st N K q
  subst l1 y1 z1
  exact (k v T' T'.heap L' (A.kept X' rfl (A.2.2.2.2.2.2.2.1.app N) K hn sf) K q).go st
theorem f_callI (A : WS p l e R s m args below meth c Z EL n0 own code ml bw vm T h locs cells slots) {i : Nat} {y : MethodName} {bytes : ByteArray} {maxL : Nat} {a : Addr} {wr : List Addr} {Q : Option Value → Heap → Prop} {kc ks : Nat} (hd : decode code pc = .ok (.invokespecial i, 3)) (hp : pc + 3 = pc') (hy1 : y.name = "<init>") (w1 : (Cond.methodLink own i y).before a0 Z = true) (w2 : (Cond.instanceMethod y).before a0 Z = true) (w4 : (Cond.code y bytes maxL none).before a0 Z = true) (hy : y.cls ≠ "java/lang/invoke/MethodHandle" ∧ y.cls ≠ "java/lang/invoke/VarHandle")
    {ps : List FieldType} {r : Option FieldType} (pd : parseMethodDescriptor y.desc = some ⟨ps, r⟩) (argsL rest : List Value) (hal : argsL.length = ps.length) (hS : S = argsL.reverse ++ .ref a :: rest) (hml : L.size = ml) (W : Nat) (hW : (rest.map fun v => v.category).sum ≤ W) (hK : BkN l R p e below (s.setVm vm) args y 3 W (.ref a :: argsL).toArray h n0 wr Q kc ks) (hc : cells + kc ≤ R.cells) (hs : slots + ks ≤ R.slots) (hn : ∀ x ∈ wr, n0 ≤ x) (sf : bw = true → ∀ x ∈ wr, Safe Z EL vm h x)
    (k : ∀ (v : Option Value) (T' : State) (h' : Heap) (L' : List Loc), WS p l e R s m args below meth c Z EL n0 own code ml bw vm T' h' (locs ++ L') (cells + kc) (slots + ks) → Keep h h' wr → Q v h' → Wp p e below P T' (mkF m pc' L (v.toList ++ rest))) : Wp p e below P T (mkF m pc L S) := by
  subst hp hS
  obtain ⟨v, _, ⟨T', L1, k1, n1⟩, -, X', ⟨L', ⟨N, K, q⟩, l1, y1, z1⟩, st⟩ := A.1.specialBack A.2.2.2.2.1 (y := y) hy1 A.2.2.2.1 (mvT A.hZ w1) (mvT A.hZ w2) (mvT A.hZ w4) hy hK (g := mkF m pc L (argsL.reverse ++ .ref a :: rest)) rfl (hml.trans A.2.2.2.2.2.2.1.symm) (Steps.refl _) (a := a) (argsL := argsL) (rest := rest) (lenOf pd hal) rfl (by show 2 * 0 + _ ≤ _; omega) (hb A.2.2.2.2.2.1 hd) (fun _ _ => ⟨rfl, A.2.1, hc, hs⟩)
  dsimp only [Pt.U, Pt.locs, Pt.cells, Pt.slots] at X' l1 y1 z1 st N K q
  subst l1 y1 z1
  exact (k v T' T'.heap L' (A.kept X' rfl (A.2.2.2.2.2.2.2.1.app N) K hn sf) K q).gos st
theorem f_callV (A : WS p l e R s m args below meth c Z EL n0 own code ml bw vm T h locs cells slots) {i : Nat} {y z : MethodName} {C : String} {a : Addr} {wr : List Addr} {Q : Option Value → Heap → Prop} {kc ks : Nat} (hd : decode code pc = .ok (.invokevirtual i, 3)) (hp : pc + 3 = pc') (w1 : (Cond.methodLink own i y).before a0 Z = true) (w2 : (Cond.declares y).before a0 Z = true) (hnf : NotFace (s.setVm vm) y) (w3 : (Cond.selects C y z).before a0 Z = true) (w4 : (Cond.instanceMethod z).before a0 Z = true) (hy : y.cls ≠ "java/lang/invoke/MethodHandle" ∧ y.cls ≠ "java/lang/invoke/VarHandle") (E : Exa Z h a C)
    {ps : List FieldType} {r : Option FieldType} (pd : parseMethodDescriptor y.desc = some ⟨ps, r⟩) (argsL rest : List Value) (hal : argsL.length = ps.length) (hS : S = argsL.reverse ++ .ref a :: rest) (hml : L.size = ml) (W : Nat) (hW : (rest.map fun v => v.category).sum ≤ W) (hK : BkN l R p e below (s.setVm vm) args z 3 W (.ref a :: argsL).toArray h n0 wr Q kc ks) (hc : cells + kc ≤ R.cells) (hs : slots + ks ≤ R.slots) (hn : ∀ x ∈ wr, n0 ≤ x) (sf : bw = true → ∀ x ∈ wr, Safe Z EL vm h x)
    (k : ∀ (v : Option Value) (T' : State) (h' : Heap) (L' : List Loc), WS p l e R s m args below meth c Z EL n0 own code ml bw vm T' h' (locs ++ L') (cells + kc) (slots + ks) → Keep h h' wr → Q v h' → Wp p e below P T' (mkF m pc' L (v.toList ++ rest))) : Wp p e below P T (mkF m pc L S) := by
  subst hp hS
  obtain ⟨cq, kq, qa, qb, qc⟩ := isOf A.hZ A.2.1 E
  obtain ⟨v, _, ⟨T', L1, k1, n1⟩, -, X', ⟨L', ⟨N, K, q⟩, l1, y1, z1⟩, st⟩ := A.1.virtualBack A.2.2.2.2.1 (y := y) (z := z) A.2.2.2.1 (mvT A.hZ w1) (mvT A.hZ w2) hnf (mvT A.hZ w3) (mvT A.hZ w4) hy hK qa qc (g := mkF m pc L (argsL.reverse ++ .ref a :: rest)) rfl (hml.trans A.2.2.2.2.2.2.1.symm) (Steps.refl _) (argsL := argsL) (rest := rest) (lenOf pd hal) rfl (by show 2 * 0 + _ ≤ _; omega) (hb A.2.2.2.2.2.1 hd) (fun _ _ => ⟨rfl, A.2.1, hc, hs⟩)
  dsimp only [Pt.U, Pt.locs, Pt.cells, Pt.slots] at X' l1 y1 z1 st N K q
  subst l1 y1 z1
  exact (k v T' T'.heap L' (A.kept X' rfl (A.2.2.2.2.2.2.2.1.app N) K hn sf) K q).gos st
theorem nfS {y : MethodName} {C : String} (A : WS p l e R s m args below meth c Z EL n0 own code ml bw vm T h locs cells slots) (w3 : (Cond.selects C y y).before a0 Z = true) : NotFace (s.setVm vm) y := notFace_of_selects (args := #[]) (mvT A.hZ w3)
/-- the payer, of a contract -/
theorem CN.pay {y : MethodName} {bytes : ByteArray} {maxL : Nat} {ret : Option FieldType} {rm : Room} {as' : Array Value} {wr : List Addr} {Q : Option Value → Heap → Prop} {len W : Nat} (A : WS p l e R s m args below meth c Z EL n0 own code ml bw vm T h locs cells slots) (hM : CN l y bytes maxL ret [] rm Z n0 h as' wr Q) (wc : (Cond.code y bytes maxL ret).before a0 Z = true) (wz : (Cond.initialized y.cls).before a0 Z = true) (hf : rm.frames + 1 ≤ R.frames) (hl : W + (maxL + 11) + rm.locals ≤ R.locals) :
    BkN l R p e below (s.setVm vm) args y len W as' h n0 wr Q rm.cells rm.slots :=
  backOf (Q := fun v h' L => Fr n0 L ∧ Keep h h' wr ∧ Q v h') hM A.hZ wc wz hf hl
theorem nfOf {U : State} {a : Array Value} {C : String} {y y0 : MethodName} (w : (Cond.selects C y0 y0).before a U = true) (hc : y0.cls = y.cls) : NotFace U y := fun r0 h0 => by
  obtain ⟨c2, r2, m2, q1, q2, q3, q4, kP, hkP, hkPi⟩ := Cond.selects_spec w
  have e1 := findClass_of_methodNamed h0
  have e2 := findClass_of_methodNamed q3
  rw [hc] at e2
  have e3 : r0.cls = m2.cls := Option.some.inj (e1.symm.trans e2)
  exact ⟨kP, by rw [e3]; exact hkP, hkPi⟩
theorem nfT {C : String} {y y0 : MethodName} (A : WS p l e R s m args below meth c Z EL n0 own code ml bw vm T h locs cells slots) (w : (Cond.selects C y0 y0).before a0 Z = true) (hc : y0.cls = y.cls) : NotFace (s.setVm vm) y := nfOf (a := #[]) (mvT A.hZ w) hc
theorem sameSelf {U : State} {a : Array Value} {y : MethodName} (wi : (Cond.instanceMethod y).before a U = true) (nf : NotFace U y) (hy : y.cls ≠ "java/lang/invoke/MethodHandle" ∧ y.cls ≠ "java/lang/invoke/VarHandle") : (Cond.sameMethod y.cls y.cls y.name y.desc).before a U = true := by
  obtain ⟨mk, methM, hnamed, -, -, -⟩ := Cond.instanceMethod_spec wi
  obtain ⟨k, hk, hni⟩ := nf mk hnamed
  have hf : U.methodFound? y.cls y.name y.desc = some mk := State.methodFound?_of_named hnamed hy
  have hc := findClass_of_methodNamed hnamed
  have hn : U.methodNamed? ⟨y.cls, y.name, y.desc⟩ = some mk := hnamed
  simp only [Cond.before, Cond.holds, Cond.value, hc, hf, hn]
  simp [hk, hni]
theorem f_callP (A : WS p l e R s m args below meth c Z EL n0 own code ml bw vm T h locs cells slots) {i : Nat} {y : MethodName} {bytes : ByteArray} {maxL : Nat} {ret : Option FieldType} {C D : String} {a : Addr} {wr : List Addr} {Q : Option Value → Heap → Prop} {kc ks : Nat} (hd : decode code pc = .ok (.invokevirtual i, 3)) (hp : pc + 3 = pc') (w1 : (Cond.methodLink own i y).before a0 Z = true) (w2 : (Cond.instanceMethod y).before a0 Z = true) (w3 : (Cond.privateMethod y).before a0 Z = true) (w4 : (Cond.selects D y y).before a0 Z = true) (wc : (Cond.code y bytes maxL ret).before a0 Z = true) (hy : y.cls ≠ "java/lang/invoke/MethodHandle" ∧ y.cls ≠ "java/lang/invoke/VarHandle") (E : Exa Z h a C)
    {ps : List FieldType} {r : Option FieldType} (pd : parseMethodDescriptor y.desc = some ⟨ps, r⟩) (argsL rest : List Value) (hal : argsL.length = ps.length) (hS : S = argsL.reverse ++ .ref a :: rest) (hml : L.size = ml) (W : Nat) (hW : (rest.map fun v => v.category).sum ≤ W) (hK : BkN l R p e below (s.setVm vm) args y 3 W (.ref a :: argsL).toArray h n0 wr Q kc ks) (hc : cells + kc ≤ R.cells) (hs : slots + ks ≤ R.slots) (hn : ∀ x ∈ wr, n0 ≤ x) (sf : bw = true → ∀ x ∈ wr, Safe Z EL vm h x)
    (k : ∀ (v : Option Value) (T' : State) (h' : Heap) (L' : List Loc), WS p l e R s m args below meth c Z EL n0 own code ml bw vm T' h' (locs ++ L') (cells + kc) (slots + ks) → Keep h h' wr → Q v h' → Wp p e below P T' (mkF m pc' L (v.toList ++ rest))) : Wp p e below P T (mkF m pc L S) := by
  subst hp hS
  have hpriv := Cond.privateMethod_at (mvP (args := args) A.hZ w3)
  have hinst : (Cond.instanceMethod y).before args (s.setVm vm) = true := mvT A.hZ w2
  obtain ⟨mk, methM, hnamed, -, -, -⟩ := Cond.instanceMethod_spec hinst
  obtain ⟨kk, hkk, hni⟩ := notFace_of_selects (args := args) (mvT A.hZ w4) mk hnamed
  have hsel := selects_self_of_private (findClass_of_methodNamed hnamed) hkk hni hpriv hinst hy
  obtain ⟨cq, q1, q2⟩ := E.cell
  obtain ⟨v, _, ⟨T', L1, k1, n1⟩, -, X', ⟨L', ⟨N, K, q⟩, l1, y1, z1⟩, st⟩ := A.1.privateBack A.2.2.2.2.1 (y := y) A.2.2.2.1 (mvT A.hZ w1) hinst hsel hpriv (mvT A.hZ wc) hy hK (g := mkF m pc L (argsL.reverse ++ .ref a :: rest)) rfl (hml.trans A.2.2.2.2.2.2.1.symm) (Steps.refl _) (a := a) (by rw [A.2.1]; exact q1) q2 (argsL := argsL) (rest := rest) (lenOf pd hal) rfl (by show 2 * 0 + _ ≤ _; omega) (hb A.2.2.2.2.2.1 hd) (fun _ _ => ⟨rfl, A.2.1, hc, hs⟩)
  dsimp only [Pt.U, Pt.locs, Pt.cells, Pt.slots] at X' l1 y1 z1 st N K q
  subst l1 y1 z1
  exact (k v T' T'.heap L' (A.kept X' rfl (A.2.2.2.2.2.2.2.1.app N) K hn sf) K q).gos st
theorem f_callU (A : WS p l e R s m args below meth c Z EL n0 own code ml bw vm T h locs cells slots) {i : Nat} {y : MethodName} {bytes : ByteArray} {maxL : Nat} {ret : Option FieldType} {C : String} {a : Addr} {wr : List Addr} {Q : Option Value → Heap → Prop} {kc ks : Nat} (hd : decode code pc = .ok (.invokespecial i, 3)) (hp : pc + 3 = pc') (w1 : (Cond.methodLink own i y).before a0 Z = true) (nf : NotFace Z y) (hy2 : y.cls ≠ "java/lang/invoke/MethodHandle" ∧ y.cls ≠ "java/lang/invoke/VarHandle") (w3 : (Cond.instanceMethod y).before a0 Z = true) (w4 : (Cond.superclass own y.cls).before a0 Z = true) (wc : (Cond.code y bytes maxL ret).before a0 Z = true) (hy : y.name ≠ "<init>") (E : Exa Z h a C)
    {ps : List FieldType} {r : Option FieldType} (pd : parseMethodDescriptor y.desc = some ⟨ps, r⟩) (argsL rest : List Value) (hal : argsL.length = ps.length) (hS : S = argsL.reverse ++ .ref a :: rest) (hml : L.size = ml) (W : Nat) (hW : (rest.map fun v => v.category).sum ≤ W) (hK : BkN l R p e below (s.setVm vm) args y 3 W (.ref a :: argsL).toArray h n0 wr Q kc ks) (hc : cells + kc ≤ R.cells) (hs : slots + ks ≤ R.slots) (hn : ∀ x ∈ wr, n0 ≤ x) (sf : bw = true → ∀ x ∈ wr, Safe Z EL vm h x)
    (k : ∀ (v : Option Value) (T' : State) (h' : Heap) (L' : List Loc), WS p l e R s m args below meth c Z EL n0 own code ml bw vm T' h' (locs ++ L') (cells + kc) (slots + ks) → Keep h h' wr → Q v h' → Wp p e below P T' (mkF m pc' L (v.toList ++ rest))) : Wp p e below P T (mkF m pc L S) := by
  subst hp hS
  obtain ⟨v, _, ⟨T', L1, k1, n1⟩, -, X', ⟨L', ⟨N, K, q⟩, l1, y1, z1⟩, st⟩ := superBack A.1 A.2.2.2.2.1 A.hZ (y := y) A.2.2.2.1 w1 (sameSelf w3 nf hy2) w3 w4 hy hK A.2.1 (Ins.self E) (g := mkF m pc L (argsL.reverse ++ .ref a :: rest)) rfl (hml.trans A.2.2.2.2.2.2.1.symm) wc (argsL := argsL) (rest := rest) (lenOf pd hal) rfl (by show 2 * 0 + _ ≤ _; omega) (hb A.2.2.2.2.2.1 hd) (fun _ _ => ⟨rfl, A.2.1, hc, hs⟩)
  dsimp only [Pt.U, Pt.locs, Pt.cells, Pt.slots] at X' l1 y1 z1 st N K q
  subst l1 y1 z1
  exact (k v T' T'.heap L' (A.kept X' rfl (A.2.2.2.2.2.2.2.1.app N) K hn sf) K q).gos st
theorem f_callF (A : WS p l e R s m args below meth c Z EL n0 own code ml bw vm T h locs cells slots) {i n : Nat} {y z : MethodName} {C : String} {a : Addr} {wr : List Addr} {Q : Option Value → Heap → Prop} {kc ks : Nat} (hd : decode code pc = .ok (.invokeinterface i n, 5)) (hp : pc + 5 = pc') (w1 : (Cond.methodLink own i y).before a0 Z = true) (w2 : (Cond.declares y).before a0 Z = true) (w3 : (Cond.interfaceMethod y.cls y.cls y.name y.desc).before a0 Z = true) (hfc : ((Cond.interfaceMethod y.cls y.cls y.name y.desc).onTables && (Cond.interfaceMethod y.cls y.cls y.name y.desc).keepsFace) = true) (w4 : (Cond.selects C y z).before a0 Z = true) (w5 : (Cond.instanceMethod z).before a0 Z = true) (w6 : (Cond.publicMethod z).before a0 Z = true) (w7 : (Cond.unhidden C y.name y.desc).before a0 Z = true) (w8 : (Cond.castable C y.cls).before a0 Z = true) (hy : y.cls ≠ "java/lang/invoke/MethodHandle" ∧ y.cls ≠ "java/lang/invoke/VarHandle") (E : Exa Z h a C)
    {ps : List FieldType} {r : Option FieldType} (pd : parseMethodDescriptor y.desc = some ⟨ps, r⟩) (argsL rest : List Value) (hal : argsL.length = ps.length) (hS : S = argsL.reverse ++ .ref a :: rest) (hml : L.size = ml) (W : Nat) (hW : (rest.map fun v => v.category).sum ≤ W) (hK : BkN l R p e below (s.setVm vm) args z 5 W (.ref a :: argsL).toArray h n0 wr Q kc ks) (hc : cells + kc ≤ R.cells) (hs : slots + ks ≤ R.slots) (hn : ∀ x ∈ wr, n0 ≤ x) (sf : bw = true → ∀ x ∈ wr, Safe Z EL vm h x)
    (k : ∀ (v : Option Value) (T' : State) (h' : Heap) (L' : List Loc), WS p l e R s m args below meth c Z EL n0 own code ml bw vm T' h' (locs ++ L') (cells + kc) (slots + ks) → Keep h h' wr → Q v h' → Wp p e below P T' (mkF m pc' L (v.toList ++ rest))) : Wp p e below P T (mkF m pc L S) := by
  subst hp hS
  obtain ⟨cq, kq, qa, qb, qc⟩ := isOf A.hZ A.2.1 E
  obtain ⟨v, _, ⟨T', L1, k1, n1⟩, -, X', ⟨L', ⟨N, K, q⟩, l1, y1, z1⟩, st⟩ := A.1.interfaceBack A.2.2.2.2.1 (xi := y) (y := z) A.2.2.2.1 (mvT A.hZ w1) (mvT A.hZ w2) (mvT A.hZ w3 hfc) (mvT A.hZ w4) (mvT A.hZ w5) (mvT A.hZ w6) (mvT A.hZ w7) (mvT A.hZ w8) hy hK qa qb qc (g := mkF m pc L (argsL.reverse ++ .ref a :: rest)) rfl (hml.trans A.2.2.2.2.2.2.1.symm) (Steps.refl _) (argsL := argsL) (rest := rest) (lenOf pd hal) rfl (by show 2 * 0 + _ ≤ _; omega) (hb A.2.2.2.2.2.1 hd) (fun _ _ => ⟨rfl, A.2.1, hc, hs⟩)
  dsimp only [Pt.U, Pt.locs, Pt.cells, Pt.slots] at X' l1 y1 z1 st N K q
  subst l1 y1 z1
  exact (k v T' T'.heap L' (A.kept X' rfl (A.2.2.2.2.2.2.2.1.app N) K hn sf) K q).gos st
theorem f_clone (A : WS p l e R s m args below meth c Z EL n0 own code ml bw vm T h locs cells slots) {ad : String} {i : Nat} {a : Addr} {kA : ClassId} {ty : FieldType} {z : Int32} {vs : List Value} {dv : Value} (W cap : Nat) (hd : decode code pc = .ok (.invokevirtual i, 3)) (hp : pc + 3 = pc') (w1 : (Cond.methodLink own i ⟨ad, "clone", "()Ljava/lang/Object;"⟩).before a0 Z = true) (w2 : (Cond.sameMethod ad "java/lang/Object" "clone" "()Ljava/lang/Object;").before a0 Z = true) (w3 : (Cond.native ⟨"java/lang/Object", "clone", "()Ljava/lang/Object;"⟩).before a0 Z = true) (w4 : (Cond.instanceMethod ⟨"java/lang/Object", "clone", "()Ljava/lang/Object;"⟩).before a0 Z = true) (w5 : (Cond.selects ad ⟨ad, "clone", "()Ljava/lang/Object;"⟩ ⟨"java/lang/Object", "clone", "()Ljava/lang/Object;"⟩).before a0 Z = true) (w6 : (Cond.castable ad "java/lang/Cloneable").before a0 Z = true)
    (F : Arv Z h a kA ty z vs dv) (E : Exa Z h a ad) (hml : L.size = ml) (hf : 1 ≤ R.frames) (hW : (S.map fun v => v.category).sum ≤ W) (hl : W + 14 ≤ R.locals) (hcap : z.toNatClampNeg ≤ cap) (hc : cells + 1 ≤ R.cells) (hsl : slots + cap ≤ R.slots)
    (k : ∀ (b : Addr) (T' : State) (h' : Heap), b = h.size → WS p l e R s m args below meth c Z EL n0 own code ml bw vm T' h' locs (cells + 1) (slots + cap) → Ext h h' → Arv Z h' b kA ty z vs dv → Exa Z h' b ad → Wp p e below P T' (mkF m pc' L (.ref b :: S))) : Wp p e below P T (mkF m pc L (.ref a :: S)) := by
  subst hp
  obtain ⟨T', h', X', q, E', F', G', st⟩ := cloneH A.1 A.2.2.2.2.1 A.hZ A.2.2.2.1 w1 w2 w3 w4 w5 w6 A.2.1 F.arh E (g := mkF m pc L (.ref a :: S)) rfl (hml.trans A.2.2.2.2.2.2.1.symm) rfl (hb A.2.2.2.2.2.1 hd) hf (W := W) (by show 2 * 0 + _ ≤ _; omega) hl hcap hc hsl
  exact (k _ T' h' rfl (A.grow X' q E') E' F' G').go st
theorem f_arrcpy (A : WS p l e R s m args below meth c Z EL n0 own code ml bw vm T h locs cells slots) {i : Nat} {a b : Addr} {kA kB : ClassId} {ty ty' : FieldType} {z z' sp dp nn : Int32} {vs vd us vd' : List Value} {dv dd : Value} (W : Nat) (hd : decode code pc = .ok (.invokestatic i, 3)) (hp : pc + 3 = pc') (w1 : (Cond.methodLink own i Jvm.Stand.acN).before a0 Z = true) (w2 : (Cond.native Jvm.Stand.acN).before a0 Z = true) (w3 : (Cond.static Jvm.Stand.acN).before a0 Z = true) (w4 : (Cond.initialized "java/lang/System").before a0 Z = true)
    (F : Arv Z h a kA ty z vs dv) (G : Arv Z h b kB ty' z' vd dd) (hty : (ty = ty' ∧ refKind ty = false) ∨ (refKind ty = true ∧ refKind ty' = true ∧ StoL Z h b us)) (h1 : ¬ sp < 0) (h2 : ¬ dp < 0) (h3 : ¬ nn < 0) (h4 : sp.toNatClampNeg + nn.toNatClampNeg ≤ z.toNatClampNeg) (h5 : dp.toNatClampNeg + nn.toNatClampNeg ≤ z'.toNatClampNeg)
    (hus : us = (List.range nn.toNatClampNeg).map fun i => vs.getD (sp.toNatClampNeg + i) dv) (hll : dp.toNatClampNeg + nn.toNatClampNeg ≤ vd.length) (hvd : vd.take dp.toNatClampNeg ++ us ++ vd.drop (dp.toNatClampNeg + nn.toNatClampNeg) = vd') (ge : n0 ≤ b) (sf : bw = true → Safe Z EL vm h b) (hml : L.size = ml) (hf : 1 ≤ R.frames) (hW : (S.map fun v => v.category).sum ≤ W) (hlo : W + (nativeFrameWords "java/lang/System" "arraycopy" 5 + 11) ≤ R.locals)
    (k : ∀ (T' : State) (h' : Heap) (L' : List Loc), WS p l e R s m args below meth c Z EL n0 own code ml bw vm T' h' L' cells slots → Keep h h' [b] → Arv Z h' b kB ty' z' vd' dd → Wp p e below P T' (mkF m pc' L S)) : Wp p e below P T (mkF m pc L (.int nn :: .int dp :: .ref b :: .int sp :: .ref a :: S)) := by
  subst hp hvd
  obtain ⟨T', h', L', X', q, N, K, V, st⟩ := cpA A.1 A.2.2.2.2.1 A.hZ A.2.2.2.1 w1 w2 w3 w4 A.2.1 F G hty h1 h2 h3 h4 h5 hus hll A.2.2.2.2.2.2.2.1 ge (g := mkF m pc L (.int nn :: .int dp :: .ref b :: .int sp :: .ref a :: S)) rfl (hml.trans A.2.2.2.2.2.2.1.symm) rfl (hb A.2.2.2.2.2.1 hd) hf (W := W) (by show 2 * 0 + _ ≤ _; omega) hlo
  exact (k T' h' L' (A.kept X' q N K (allS ge all0) (fun b => sfS (sf b) sf0)) K V).go st
theorem f_instNull (A : WS p l e R s m args below meth c Z EL n0 own code ml bw vm T h locs cells slots) {i : Nat} (hd : decode code pc = .ok (.instanceof i, 3)) (hp : pc + 3 = pc') (k : Wp p e below P T (mkF m pc' L (.int 0 :: S))) : Wp p e below P T (mkF m pc L (.null :: S)) := by
  subst hp; exact k.go fun t q => A.1.instanceofNull A.2.2.2.2.1 (g := mkF m pc L (.null :: S)) rfl rfl (hb A.2.2.2.2.2.1 hd) t q
theorem f_castNull (A : WS p l e R s m args below meth c Z EL n0 own code ml bw vm T h locs cells slots) {i : Nat} (hd : decode code pc = .ok (.checkcast i, 3)) (hp : pc + 3 = pc') (k : Wp p e below P T (mkF m pc' L (.null :: S))) : Wp p e below P T (mkF m pc L (.null :: S)) := by
  subst hp; exact k.go fun t q => A.1.checkcastNull A.2.2.2.2.1 (g := mkF m pc L (.null :: S)) rfl rfl (hb A.2.2.2.2.2.1 hd) t q
theorem f_instNo (A : WS p l e R s m args below meth c Z EL n0 own code ml bw vm T h locs cells slots) {C K : String} {i : Nat} {a : Addr} (hd : decode code pc = .ok (.instanceof i, 3)) (hp : pc + 3 = pc') (w : (Cond.classLink own i K).before a0 Z = true) (E : Exa Z h a C) (F : ∃ c t, Z.vm.findClass C = some c ∧ Z.vm.findClass K = some t ∧ Z.vm.assignable c t = false) (k : ∀ (T' : State), WS p l e R s m args below meth c Z EL n0 own code ml bw vm T' h locs cells slots → Wp p e below P T' (mkF m pc' L (.int 0 :: S))) : Wp p e below P T (mkF m pc L (.ref a :: S)) := by
  subst hp
  obtain ⟨T', X', q, st⟩ := instNo A.1 A.2.2.2.2.1 A.hZ A.2.2.2.1 w A.2.1 E F (g := mkF m pc L (.ref a :: S)) rfl rfl (hb A.2.2.2.2.2.1 hd)
  exact (k T' (A.still X' q)).go st
theorem f_callSW (A : WS p l e R s m args below meth c Z EL n0 own code ml true vm T h locs cells slots) {i : Nat} {y : MethodName} {bytes : ByteArray} {maxL : Nat} {ret : Option FieldType} {wr : List Addr} {Q : Option Value → Heap → Prop} {kc ks : Nat} (hd : decode code pc = .ok (.invokestatic i, 3)) (hp : pc + 3 = pc') (w1 : (Cond.methodLink own i y).before a0 Z = true) (w2 : (Cond.static y).before a0 Z = true) (w3 : (Cond.initialized y.cls).before a0 Z = true) (w4 : (Cond.code y bytes maxL ret).before a0 Z = true) (hy : y.cls ≠ "java/lang/invoke/MethodHandle" ∧ y.cls ≠ "java/lang/invoke/VarHandle")
    {ps : List FieldType} {r : Option FieldType} (pd : parseMethodDescriptor y.desc = some ⟨ps, r⟩) (argsL rest : List Value) (hal : argsL.length = ps.length) (hS : S = argsL.reverse ++ rest) (hml : L.size = ml) (W : Nat) (hW : (rest.map fun v => v.category).sum ≤ W) (hK : BkS l R p e below (s.setVm vm) args y 3 W argsL.toArray h n0 wr Q kc ks Z EL vm) (hc : cells + kc ≤ R.cells) (hs : slots + ks ≤ R.slots) (hn : ∀ x ∈ wr, n0 ≤ x)
    (k : ∀ (v : Option Value) (vm' : Vm) (T' : State) (h' : Heap) (L' : List Loc), WS p l e R s m args below meth c Z EL n0 own code ml true vm' T' h' (locs ++ L') (cells + kc) (slots + ks) → Keep h h' wr → CHr Z EL vm h vm' h' → Q v h' → Wp p e below P T' (mkF m pc' L (v.toList ++ rest))) : Wp p e below P T (mkF m pc L S) := by
  subst hp hS
  obtain ⟨v, _, ⟨T', L1, k1, n1⟩, -, X', hS2, hg2, ⟨L', ⟨N, K, q⟩, l1, y1, z1, hCC⟩, st⟩ := callSS A.1 A.2.2.2.2.1 (y := y) A.2.2.2.1 (mvT A.hZ w1) (mvT A.hZ w2) (mvT A.hZ w3) (mvT A.hZ w4) hy hK (g := mkF m pc L (argsL.reverse ++ rest)) rfl (hml.trans A.2.2.2.2.2.2.1.symm) (argsL := argsL) (rest := rest) (lenOf pd hal) rfl (by show 2 * 0 + _ ≤ _; omega) (hb A.2.2.2.2.2.1 hd) (fun _ _ => ⟨rfl, A.2.1, hc, hs⟩)
  dsimp only [Pt.U, Pt.locs, Pt.cells, Pt.slots] at X' l1 y1 z1 st N K q hS2 hg2 hCC
  subst l1 y1 z1
  obtain ⟨⟨k0, hS, hk⟩, hC⟩ := A.wide
  obtain ⟨X2, hS3, hZ3, ho3⟩ := rebS hS (A.2.1 ▸ hk) X' hS2 hg2 A.hZ A.2.2.2.1
  exact (k v T'.vm T' T'.heap L' ⟨X2, rfl, hZ3, ho3, A.2.2.2.2.1, A.2.2.2.2.2.1, A.2.2.2.2.2.2.1, A.2.2.2.2.2.2.2.1.app N, A.old.keep K hn, Or.inr ⟨rfl, ⟨_, hS3, Nat.le_refl _⟩, hC.trans hCC⟩⟩ K hCC q).gos st
theorem f_callIW (A : WS p l e R s m args below meth c Z EL n0 own code ml true vm T h locs cells slots) {i : Nat} {y : MethodName} {bytes : ByteArray} {maxL : Nat} {a : Addr} {wr : List Addr} {Q : Option Value → Heap → Prop} {kc ks : Nat} (hd : decode code pc = .ok (.invokespecial i, 3)) (hp : pc + 3 = pc') (hy1 : y.name = "<init>") (w1 : (Cond.methodLink own i y).before a0 Z = true) (w2 : (Cond.instanceMethod y).before a0 Z = true) (w4 : (Cond.code y bytes maxL none).before a0 Z = true) (hy : y.cls ≠ "java/lang/invoke/MethodHandle" ∧ y.cls ≠ "java/lang/invoke/VarHandle")
    {ps : List FieldType} {r : Option FieldType} (pd : parseMethodDescriptor y.desc = some ⟨ps, r⟩) (argsL rest : List Value) (hal : argsL.length = ps.length) (hS : S = argsL.reverse ++ .ref a :: rest) (hml : L.size = ml) (W : Nat) (hW : (rest.map fun v => v.category).sum ≤ W) (hK : BkS l R p e below (s.setVm vm) args y 3 W (.ref a :: argsL).toArray h n0 wr Q kc ks Z EL vm) (hc : cells + kc ≤ R.cells) (hs : slots + ks ≤ R.slots) (hn : ∀ x ∈ wr, n0 ≤ x)
    (k : ∀ (v : Option Value) (vm' : Vm) (T' : State) (h' : Heap) (L' : List Loc), WS p l e R s m args below meth c Z EL n0 own code ml true vm' T' h' (locs ++ L') (cells + kc) (slots + ks) → Keep h h' wr → CHr Z EL vm h vm' h' → Q v h' → Wp p e below P T' (mkF m pc' L (v.toList ++ rest))) : Wp p e below P T (mkF m pc L S) := by
  subst hp hS
  obtain ⟨v, _, ⟨T', L1, k1, n1⟩, -, X', hS2, hg2, ⟨L', ⟨N, K, q⟩, l1, y1, z1, hCC⟩, st⟩ := A.1.specialBackS A.2.2.2.2.1 (y := y) hy1 A.2.2.2.1 (mvT A.hZ w1) (mvT A.hZ w2) (mvT A.hZ w4) hy hK (g := mkF m pc L (argsL.reverse ++ .ref a :: rest)) rfl (hml.trans A.2.2.2.2.2.2.1.symm) (Steps.refl _) (a := a) (argsL := argsL) (rest := rest) (lenOf pd hal) rfl (by show 2 * 0 + _ ≤ _; omega) (hb A.2.2.2.2.2.1 hd) (fun _ _ => ⟨rfl, A.2.1, hc, hs⟩)
  dsimp only [Pt.U, Pt.locs, Pt.cells, Pt.slots] at X' l1 y1 z1 st N K q hS2 hg2 hCC
  subst l1 y1 z1
  obtain ⟨⟨k0, hS, hk⟩, hC⟩ := A.wide
  obtain ⟨X2, hS3, hZ3, ho3⟩ := rebS hS (A.2.1 ▸ hk) X' hS2 hg2 A.hZ A.2.2.2.1
  exact (k v T'.vm T' T'.heap L' ⟨X2, rfl, hZ3, ho3, A.2.2.2.2.1, A.2.2.2.2.2.1, A.2.2.2.2.2.2.1, A.2.2.2.2.2.2.2.1.app N, A.old.keep K hn, Or.inr ⟨rfl, ⟨_, hS3, Nat.le_refl _⟩, hC.trans hCC⟩⟩ K hCC q).gos st
theorem f_callVW (A : WS p l e R s m args below meth c Z EL n0 own code ml true vm T h locs cells slots) {i : Nat} {y z : MethodName} {C : String} {a : Addr} {wr : List Addr} {Q : Option Value → Heap → Prop} {kc ks : Nat} (hd : decode code pc = .ok (.invokevirtual i, 3)) (hp : pc + 3 = pc') (w1 : (Cond.methodLink own i y).before a0 Z = true) (w2 : (Cond.declares y).before a0 Z = true) (hnf : NotFace (s.setVm vm) y) (w3 : (Cond.selects C y z).before a0 Z = true) (w4 : (Cond.instanceMethod z).before a0 Z = true) (hy : y.cls ≠ "java/lang/invoke/MethodHandle" ∧ y.cls ≠ "java/lang/invoke/VarHandle") (E : Exa Z h a C)
    {ps : List FieldType} {r : Option FieldType} (pd : parseMethodDescriptor y.desc = some ⟨ps, r⟩) (argsL rest : List Value) (hal : argsL.length = ps.length) (hS : S = argsL.reverse ++ .ref a :: rest) (hml : L.size = ml) (W : Nat) (hW : (rest.map fun v => v.category).sum ≤ W) (hK : BkS l R p e below (s.setVm vm) args z 3 W (.ref a :: argsL).toArray h n0 wr Q kc ks Z EL vm) (hc : cells + kc ≤ R.cells) (hs : slots + ks ≤ R.slots) (hn : ∀ x ∈ wr, n0 ≤ x)
    (k : ∀ (v : Option Value) (vm' : Vm) (T' : State) (h' : Heap) (L' : List Loc), WS p l e R s m args below meth c Z EL n0 own code ml true vm' T' h' (locs ++ L') (cells + kc) (slots + ks) → Keep h h' wr → CHr Z EL vm h vm' h' → Q v h' → Wp p e below P T' (mkF m pc' L (v.toList ++ rest))) : Wp p e below P T (mkF m pc L S) := by
  subst hp hS
  obtain ⟨cq, kq, qa, qb, qc⟩ := isOf A.hZ A.2.1 E
  obtain ⟨v, _, ⟨T', L1, k1, n1⟩, -, X', hS2, hg2, ⟨L', ⟨N, K, q⟩, l1, y1, z1, hCC⟩, st⟩ := A.1.virtualBackS A.2.2.2.2.1 (y := y) (z := z) A.2.2.2.1 (mvT A.hZ w1) (mvT A.hZ w2) hnf (mvT A.hZ w3) (mvT A.hZ w4) hy hK qa qc (g := mkF m pc L (argsL.reverse ++ .ref a :: rest)) rfl (hml.trans A.2.2.2.2.2.2.1.symm) (Steps.refl _) (argsL := argsL) (rest := rest) (lenOf pd hal) rfl (by show 2 * 0 + _ ≤ _; omega) (hb A.2.2.2.2.2.1 hd) (fun _ _ => ⟨rfl, A.2.1, hc, hs⟩)
  dsimp only [Pt.U, Pt.locs, Pt.cells, Pt.slots] at X' l1 y1 z1 st N K q hS2 hg2 hCC
  subst l1 y1 z1
  obtain ⟨⟨k0, hS, hk⟩, hC⟩ := A.wide
  obtain ⟨X2, hS3, hZ3, ho3⟩ := rebS hS (A.2.1 ▸ hk) X' hS2 hg2 A.hZ A.2.2.2.1
  exact (k v T'.vm T' T'.heap L' ⟨X2, rfl, hZ3, ho3, A.2.2.2.2.1, A.2.2.2.2.2.1, A.2.2.2.2.2.2.1, A.2.2.2.2.2.2.2.1.app N, A.old.keep K hn, Or.inr ⟨rfl, ⟨_, hS3, Nat.le_refl _⟩, hC.trans hCC⟩⟩ K hCC q).gos st
/-- the payer, of a contract that may intern -/
theorem CW.pay {y : MethodName} {bytes : ByteArray} {maxL : Nat} {ret : Option FieldType} {rm : Room} {as' : Array Value} {wr SL : List Addr} {Q : Option Value → Heap → Prop} {len W : Nat} (A : WS p l e R s m args below meth c Z EL n0 own code ml true vm T h locs cells slots) (hEL : EW Z a0 EL) (hM : CW l y bytes maxL ret [] rm Z EL SL n0 h as' wr Q) (wc : (Cond.code y bytes maxL ret).before a0 Z = true) (wz : (Cond.initialized y.cls).before a0 Z = true) (hf : rm.frames + 1 ≤ R.frames) (hl : W + (maxL + 11) + rm.locals ≤ R.locals) (hSL : ∀ x ∈ SL, x < h.size ∧ Safe Z EL vm h x) :
    BkS l R p e below (s.setVm vm) args y len W as' h n0 wr Q rm.cells rm.slots Z EL vm :=
  have H := A.wide.2.1
  BackS.of_freeW (bytes := bytes) (maxL := maxL) (ret := ret) (E := fun _ first o t L k n => k = rm.cells ∧ n = rm.slots ∧ (∃ v, o = .returned v ∧ (Fr n0 L ∧ Keep h t.heap wr ∧ Q v t.heap)) ∧ CHr Z EL first.vm first.heap t.vm t.heap) hM hf hl
    (fun m meth c B a Y hp => have hU : Z.Warmed39 B.U.vm := wtrans (s := s.setVm vm) A.hZ Y.warmed
      ⟨by show (Cond.and _ .tt).before a B.U = true; rw [Cond.before_and, mv hU wc]; rfl, mv hU wc, mv hU wz, hp.2.2.1, hp.2.2.2⟩)
    (fun m meth c B a g mk Y hp => ⟨hp.1, wtrans (s := s.setVm vm) A.hZ Y.warmed, hp.2.1, (CHv.at Y A.hZ hEL H).1, fun x hx => (CHv.at Y A.hZ hEL H).safe (hSL x hx).1 (hSL x hx).2⟩) (fun _ _ _ _ _ _ _ _ _ => trivial)
    (fun _ _ _ _ ⟨v, L, h1, h2, h3, h4⟩ => ⟨L, _, _, h4, rfl, rfl, ⟨v, h1, h2⟩, h3⟩)
    (fun m meth c B a g mk v t L k n Y hp _ _ ⟨e1, e2, ⟨v', e3, e4⟩, e5⟩ => by
      cases e3; subst e1 e2
      refine ⟨L, e4, rfl, rfl, rfl, (CHv.at Y A.hZ hEL H).trans ?_⟩
      rw [← hp.2.1]; exact e5)
end OwnKit
end Jvm.Pilot.@@N@@
/- laws to paste: Road.backV, Road.lenW, Road.chN, Road.codOf (cut by pick.py; bodies as the Statement names them) -/
namespace Jvm.Pilot.@@N@@
namespace StrChars
open Jvm Sem ClassFile Op Lib Jvm.Stand Jvm.Free.XT Jvm.Free.ALB Jvm.Free.JM Jvm.Free
open Jvm.Lib.Cold (StaticIs)
/-- a char array whose places are chars -/
def Ch (a : Addr) (A : Cell) (U : State) : Prop := Arr .char a A U ∧ Typed .char A
theorem Ch.mv {a : Addr} {A : Cell} {U U' : State} (h : Ch a A U) (hal : U.vm.Alike U'.vm) (hh : U'.heap = U.heap) : Ch a A U' := ⟨h.1.mv hal hh, h.2⟩
theorem Ch.keep {a : Addr} {A : Cell} {U U' : State} (h : Ch a A U) (hal : U.vm.Alike U'.vm) (hk : U'.heap[a]? = some A) : Ch a A U' := ⟨h.1.keep hal hk, h.2⟩
/-- what place i of a char[]'s cell holds -/
def cv (A : Cell) (i : Nat) : Int32 := match A.slots[i]? with | some (.int x) => x | _ => 0
theorem Ch.get {a : Addr} {A : Cell} {U : State} (h : Ch a A U) {i : Nat} (hi : i < A.slots.size) : A.slots[i]? = some (.int (cv A i)) := by
  have e := Array.getElem?_eq_getElem hi
  have f := h.2 i _ e
  unfold cv; rw [e]
  generalize A.slots[i] = v at f
  cases v <;> simp [fits] at f ⊢
/-- the byte that i2b leaves of a char -/
def lo8 (x : Int32) : Int32 := x.toInt8.toInt32
theorem fits_lo8 (y : Int32) : fits .byte (.int (lo8 y)) = true := by
  have h1 := y.toInt8.le_toInt
  have h2 := y.toInt8.toInt_lt
  simp only [lo8, fits, Bool.and_eq_true, decide_eq_true_eq, Int32.le_iff_toInt_le, Int8.toInt_toInt32, show (-128 : Int32).toInt = -128 from by decide, show (127 : Int32).toInt = 127 from by decide]
  omega
/-- A' is A but that each place j of lo .. hi - 1 holds f j -/
def Laid (A A' : Cell) (lo hi : Nat) (f : Nat → Value) : Prop := A'.cls = A.cls ∧ A'.vm = A.vm ∧ A'.slots.size = A.slots.size ∧ ∀ i, A'.slots[i]? = if lo ≤ i ∧ i < hi then some (f i) else A.slots[i]?
theorem Laid.zero (A : Cell) (lo : Nat) (f : Nat → Value) : Laid A A lo (lo + 0) f := ⟨rfl, rfl, rfl, fun i => by rw [if_neg (by omega)]⟩
theorem Laid.step {A Ak : Cell} {lo k : Nat} {f : Nat → Value} {v : Value} (h : Laid A Ak lo k f) (hlo : lo ≤ k) (hk : k < Ak.slots.size) (hv : v = f k) : Laid A (Ak.setSlot k v) lo (k + 1) f := by
  refine ⟨h.1, h.2.1, by simpa [Cell.setSlot] using h.2.2.1, fun i => ?_⟩
  by_cases e : k = i
  · subst e; rw [Cell.slots_setSlot_self v hk, if_pos (by omega), hv]
  · rw [Cell.slots_setSlot_ne v e, h.2.2.2 i]
    by_cases q : lo ≤ i ∧ i < k
    · rw [if_pos q, if_pos (by omega)]
    · rw [if_neg q, if_neg (by omega)]
def U16 : String := "java/lang/StringUTF16"
namespace Cmp5
def yN : MethodName := ⟨"java/lang/StringUTF16", "compress", "([CI[BII)I"⟩
abbrev yB : ByteArray := jdk_52_method_21_code
theorem d0 : decode yB 0 = .ok (.iconst 0, 1) := by decide +kernel
theorem d1 : decode yB 1 = .ok (.istore 5, 2) := by decide +kernel
theorem d3 : decode yB 3 = .ok (.iload 5, 2) := by decide +kernel
theorem d5 : decode yB 5 = .ok (.iload 4, 2) := by decide +kernel
theorem d7 : decode yB 7 = .ok (.if_icmp (.ge) 37, 3) := by decide +kernel
theorem d10 : decode yB 10 = .ok (.aload_n 0, 1) := by decide +kernel
theorem d11 : decode yB 11 = .ok (.iload_n 1, 1) := by decide +kernel
theorem d12 : decode yB 12 = .ok (.caload, 1) := by decide +kernel
theorem d13 : decode yB 13 = .ok (.istore 6, 2) := by decide +kernel
theorem d15 : decode yB 15 = .ok (.iload 6, 2) := by decide +kernel
theorem d17 : decode yB 17 = .ok (.sipush 255, 3) := by decide +kernel
theorem d20 : decode yB 20 = .ok (.if_icmp (.le) 6, 3) := by decide +kernel
theorem d26 : decode yB 26 = .ok (.aload_n 2, 1) := by decide +kernel
theorem d27 : decode yB 27 = .ok (.iload_n 3, 1) := by decide +kernel
theorem d28 : decode yB 28 = .ok (.iload 6, 2) := by decide +kernel
theorem d30 : decode yB 30 = .ok (.i2b, 1) := by decide +kernel
theorem d31 : decode yB 31 = .ok (.bastore, 1) := by decide +kernel
theorem d32 : decode yB 32 = .ok (.iinc 1 1, 3) := by decide +kernel
theorem d35 : decode yB 35 = .ok (.iinc 3 1, 3) := by decide +kernel
theorem d38 : decode yB 38 = .ok (.iinc 5 1, 3) := by decide +kernel
theorem d41 : decode yB 41 = .ok (.goto (-38), 3) := by decide +kernel
theorem d44 : decode yB 44 = .ok (.iload 4, 2) := by decide +kernel
theorem d46 : decode yB 46 = .ok (.ireturn, 1) := by decide +kernel
def site : List Cond := []
def tab : Cond := tabOf yN yB 7 (some .int) site
def P (b : Addr) (A : Cell) (d : Addr) (B : Cell) (o q len : Nat) (args : Array Value) (s : State) : Prop := args = #[.ref b, .int (Int32.ofNat o), .ref d, .int (Int32.ofNat q), .int (Int32.ofNat len)] ∧ Ch b A s ∧ Arr .byte d B s ∧ b ≠ d ∧ o + len ≤ A.slots.size ∧ q + len ≤ B.slots.size ∧ ∀ i, i < len → ¬ 255 < cv A (o + i)
def E (b : Addr) (A : Cell) (d : Addr) (B : Cell) (o q len : Nat) (r : Option Value) (s u : State) : Prop := r = some (.int (Int32.ofNat len)) ∧ ∃ B', Put d B' s u ∧ Laid B B' q (q + len) (fun j => Value.int (lo8 (cv A (o + (j - q)))))
/-- no char of the range above 255: len; the places written hold each char's low byte -/
theorem law (l : Launch) (b : Addr) (A : Cell) (d : Addr) (B : Cell) (o q len : Nat) : Law l yN 5 5 0 0 yB 7 (some .int) site (P b A d B o q len) (E b A d B o q len) (copyLocs d q len) 0 0 := by
  refine Law.of_walk (plainFor_of_name (by decide +kernel)) (by decide +kernel) (by decide +kernel) (by decide) (fun _ _ h => by rw [h.1]; rfl) (fun _ U U' hal hh h => ⟨h.1, h.2.1.mv hal hh, h.2.2.1.mv hal hh, h.2.2.2⟩) (fun r U U' V V' h1 hal h2 h => ⟨h.1, h.2.elim fun B' q => ⟨B', q.1.mv h1 h2, q.2⟩⟩) ?_
  intro p e s m args below meth c s₁ X0 hexec hbytes hml hret hlk hnm hown hh0 W hP
  obtain ⟨rfl, hA, hB, hne, l1, l2, hp⟩ := hP
  have c1 : Steps p.tables e below (s₁.setTop (entryFrame m #[.ref b, .int (Int32.ofNat o), .ref d, .int (Int32.ofNat q), .int (Int32.ofNat len)] 7)) (s₁.setTop (mkF m 0 #[.val (.ref b), .val (.int (Int32.ofNat o)), .val (.ref d), .val (.int (Int32.ofNat q)), .val (.int (Int32.ofNat len)), .unset, .unset] [])) := entry rfl
  have hA0 := hA.1.mv X0.warmed.alike hh0
  have hB0 := hB.mv X0.warmed.alike hh0
  have a31 := hA.1.2.2.2
  have c2 : Steps p.tables e below (s₁.setTop (entryFrame m #[.ref b, .int (Int32.ofNat o), .ref d, .int (Int32.ofNat q), .int (Int32.ofNat len)] 7)) (s₁.setTop (mkF m 3 #[.val (.ref b), .val (.int (Int32.ofNat o)), .val (.ref d), .val (.int (Int32.ofNat q)), .val (.int (Int32.ofNat len)), .val (.int 0), .unset] [])) := c1.trans (by
    refine iconstV X0.here hexec rfl 0 (hb hbytes d0) (by decide) ?_
    refine XS.istore X0.here hexec rfl (hb hbytes d1) rfl rfl ?_
    exact Steps.refl _)
  have loop : ∀ (r i : Nat), i + r = len → ∀ (z : Slot), (z = .unset ∨ ∃ w, z = .val w ∧ w.category = 1) → ∀ (Tl : State) (Bk : Cell), Stand p l e { frames := 0, locals := 0, cells := 0, slots := 0 } s m #[.ref b, .int (Int32.ofNat o), .ref d, .int (Int32.ofNat q), .int (Int32.ofNat len)] below meth c Tl ([] ++ copyLocs d q i) 0 0 → Put d Bk s₁ Tl → Laid B Bk q (q + i) (fun j => Value.int (lo8 (cv A (o + (j - q))))) →
      Steps p.tables e below (s₁.setTop (entryFrame m #[.ref b, .int (Int32.ofNat o), .ref d, .int (Int32.ofNat q), .int (Int32.ofNat len)] 7)) (Tl.setTop (mkF m 3 #[.val (.ref b), .val (.int (Int32.ofNat (o + i))), .val (.ref d), .val (.int (Int32.ofNat (q + i))), .val (.int (Int32.ofNat len)), .val (.int (Int32.ofNat i)), z] [])) → ∃ (T' : State) (B' : Cell) (z' : Slot), Stand p l e { frames := 0, locals := 0, cells := 0, slots := 0 } s m #[.ref b, .int (Int32.ofNat o), .ref d, .int (Int32.ofNat q), .int (Int32.ofNat len)] below meth c T' ([] ++ copyLocs d q len) 0 0 ∧ Put d B' s₁ T' ∧ Laid B B' q (q + len) (fun j => Value.int (lo8 (cv A (o + (j - q))))) ∧
      Steps p.tables e below (s₁.setTop (entryFrame m #[.ref b, .int (Int32.ofNat o), .ref d, .int (Int32.ofNat q), .int (Int32.ofNat len)] 7)) (T'.setTop (mkF m 3 #[.val (.ref b), .val (.int (Int32.ofNat (o + len))), .val (.ref d), .val (.int (Int32.ofNat (q + len))), .val (.int (Int32.ofNat len)), .val (.int (Int32.ofNat len)), z'] [])) := by
    intro r
    induction r with
    | zero =>
      intro i hi z hz Tl Bk Xl pl fl cl
      have hil : i = len := by omega
      rw [hil] at Xl fl cl
      exact ⟨Tl, Bk, z, Xl, pl, fl, cl⟩
    | succ r ih =>
      intro i hi z hz Tl Bk Xl pl fl cl
      have all := X0.warmed.alike.symm.trans Xl.warmed.alike
      have hAl := hA0.keep all (pl.other hne hA0.1)
      have hBk := hB0.like all pl.1 fl.1 fl.2.1 fl.2.2.1
      have hlt : q + i < Bk.slots.size := by rw [fl.2.2.1]; omega
      have c3 : Steps p.tables e below (s₁.setTop (entryFrame m #[.ref b, .int (Int32.ofNat o), .ref d, .int (Int32.ofNat q), .int (Int32.ofNat len)] 7)) (Tl.setTop (mkF m 12 #[.val (.ref b), .val (.int (Int32.ofNat (o + i))), .val (.ref d), .val (.int (Int32.ofNat (q + i))), .val (.int (Int32.ofNat len)), .val (.int (Int32.ofNat i)), z] [.int (Int32.ofNat (o + i)), .ref b])) := cl.trans (by
        refine XS.iload Xl.here hexec rfl (hb hbytes d3) rfl ?_
        refine XS.iload Xl.here hexec rfl (hb hbytes d5) rfl ?_
        refine XS.icmpNo Xl.here hexec rfl (hb hbytes d7) rfl (ii_ge_f (lt32 (by omega) (by omega))) ?_
        refine XS.aloadN Xl.here hexec rfl (hb hbytes d10) rfl rfl ?_
        refine XS.iloadN Xl.here hexec rfl (hb hbytes d11) rfl ?_
        exact Steps.refl _)
      have c4 : Steps p.tables e below (s₁.setTop (entryFrame m #[.ref b, .int (Int32.ofNat o), .ref d, .int (Int32.ofNat q), .int (Int32.ofNat len)] 7)) (Tl.setTop (mkF m 13 #[.val (.ref b), .val (.int (Int32.ofNat (o + i))), .val (.ref d), .val (.int (Int32.ofNat (q + i))), .val (.int (Int32.ofNat len)), .val (.int (Int32.ofNat i)), z] [.int (cv A (o + i))])) := c3.trans (by
        refine Xl.aget hexec hAl rfl (hA.get (i := o + i) (by omega)) rfl rfl (hb hbytes d12) ?_
        exact Steps.refl _)
      have c5 : Steps p.tables e below (s₁.setTop (entryFrame m #[.ref b, .int (Int32.ofNat o), .ref d, .int (Int32.ofNat q), .int (Int32.ofNat len)] 7)) (Tl.setTop (mkF m 15 #[.val (.ref b), .val (.int (Int32.ofNat (o + i))), .val (.ref d), .val (.int (Int32.ofNat (q + i))), .val (.int (Int32.ofNat len)), .val (.int (Int32.ofNat i)), .val (.int (cv A (o + i)))] [])) := c4.trans (by
        refine XS.istoreS Xl.here hexec rfl (hb hbytes d13) rfl rfl hz ?_
        exact Steps.refl _)
      have c6 : Steps p.tables e below (s₁.setTop (entryFrame m #[.ref b, .int (Int32.ofNat o), .ref d, .int (Int32.ofNat q), .int (Int32.ofNat len)] 7)) (Tl.setTop (mkF m 31 #[.val (.ref b), .val (.int (Int32.ofNat (o + i))), .val (.ref d), .val (.int (Int32.ofNat (q + i))), .val (.int (Int32.ofNat len)), .val (.int (Int32.ofNat i)), .val (.int (cv A (o + i)))] [.int (lo8 (cv A (o + i))), .int (Int32.ofNat (q + i)), .ref d])) := c5.trans (by
        refine XS.iload Xl.here hexec rfl (hb hbytes d15) rfl ?_
        refine sipushV Xl.here hexec rfl 255 (hb hbytes d17) (by decide) ?_
        refine XS.icmpYes Xl.here hexec rfl (pc0 := 20) rfl (hb hbytes d20) rfl (ii_le_t (hp i (by omega))) (by decide) rfl ?_
        refine XS.aloadN Xl.here hexec rfl (hb hbytes d26) rfl rfl ?_
        refine XS.iloadN Xl.here hexec rfl (hb hbytes d27) rfl ?_
        refine XS.iload Xl.here hexec rfl (hb hbytes d28) rfl ?_
        refine i2b Xl.here hexec rfl (hb hbytes d30) rfl ?_
        exact Steps.refl _)
      obtain ⟨T7, X7, p7, st7⟩ := Xl.aput hexec hBk rfl hlt rfl (fits_lo8 (cv A (o + i))) (g := (mkF m 31 #[.val (.ref b), .val (.int (Int32.ofNat (o + i))), .val (.ref d), .val (.int (Int32.ofNat (q + i))), .val (.int (Int32.ofNat len)), .val (.int (Int32.ofNat i)), .val (.int (cv A (o + i)))] [.int (lo8 (cv A (o + i))), .int (Int32.ofNat (q + i)), .ref d])) rfl (rest := []) rfl (hb hbytes d31)
      have c8 : Steps p.tables e below (s₁.setTop (entryFrame m #[.ref b, .int (Int32.ofNat o), .ref d, .int (Int32.ofNat q), .int (Int32.ofNat len)] 7)) (T7.setTop (mkF m 32 #[.val (.ref b), .val (.int (Int32.ofNat (o + i))), .val (.ref d), .val (.int (Int32.ofNat (q + i))), .val (.int (Int32.ofNat len)), .val (.int (Int32.ofNat i)), .val (.int (cv A (o + i)))] [])) := c6.trans (st7 _ (Steps.refl _))
      have c9 : Steps p.tables e below (s₁.setTop (entryFrame m #[.ref b, .int (Int32.ofNat o), .ref d, .int (Int32.ofNat q), .int (Int32.ofNat len)] 7)) (T7.setTop (mkF m 3 #[.val (.ref b), .val (.int (Int32.ofNat (o + i) + 1)), .val (.ref d), .val (.int (Int32.ofNat (q + i) + 1)), .val (.int (Int32.ofNat len)), .val (.int (Int32.ofNat i + 1)), .val (.int (cv A (o + i)))] [])) := c8.trans (by
        refine iincV X7.here hexec rfl 1 (hb hbytes d32) (by decide) rfl rfl ?_
        refine iincV X7.here hexec rfl 1 (hb hbytes d35) (by decide) rfl rfl ?_
        refine iincV X7.here hexec rfl 1 (hb hbytes d38) (by decide) rfl rfl ?_
        refine XS.goto X7.here hexec rfl (pc0 := 41) rfl (hb hbytes d41) (by decide) rfl ?_
        exact Steps.refl _)
      have c10 : Steps p.tables e below (s₁.setTop (entryFrame m #[.ref b, .int (Int32.ofNat o), .ref d, .int (Int32.ofNat q), .int (Int32.ofNat len)] 7)) (T7.setTop (mkF m 3 #[.val (.ref b), .val (.int (Int32.ofNat (o + (i + 1)))), .val (.ref d), .val (.int (Int32.ofNat (q + (i + 1)))), .val (.int (Int32.ofNat len)), .val (.int (Int32.ofNat (i + 1))), .val (.int (cv A (o + i)))] [])) := by
        have := c9
        rw [succ32, succ32, succ32] at this
        exact this
      exact ih (i + 1) (by omega) _ (Or.inr ⟨_, rfl, rfl⟩) T7 _ (by rw [copyLocs_step, ← List.append_assoc]; exact X7) (pl.trans p7) (fl.step (by omega) hlt (by simp)) c10
  obtain ⟨T9, B9, z9, X9, p9, f9, g9⟩ := loop len 0 (by omega) .unset (Or.inl rfl) s₁ B (by simpa [copyLocs] using X0) ⟨hB0.1, fun _ _ => rfl, rfl⟩ (Laid.zero _ _ _) c2
  have c11 : Steps p.tables e below (s₁.setTop (entryFrame m #[.ref b, .int (Int32.ofNat o), .ref d, .int (Int32.ofNat q), .int (Int32.ofNat len)] 7)) (T9.setTop (mkF m 46 #[.val (.ref b), .val (.int (Int32.ofNat (o + len))), .val (.ref d), .val (.int (Int32.ofNat (q + len))), .val (.int (Int32.ofNat len)), .val (.int (Int32.ofNat len)), z9] [.int (Int32.ofNat len)])) := g9.trans (by
    refine XS.iload X9.here hexec rfl (hb hbytes d3) rfl ?_
    refine XS.iload X9.here hexec rfl (hb hbytes d5) rfl ?_
    refine XS.icmpYes X9.here hexec rfl (pc0 := 7) rfl (hb hbytes d7) rfl (ii_ge_t (nlt32 (by omega) (Nat.le_refl _))) (by decide) rfl ?_
    refine XS.iload X9.here hexec rfl (hb hbytes d44) rfl ?_
    exact Steps.refl _)
  exact ⟨T9, some (.int (Int32.ofNat len)), _, _, _, X9, by simp, rfl, rfl, (fun h => by cases h), ⟨rfl, B9, p9.from hh0, f9⟩, fun fs hl => c11.trans (X9.ireturnOut hexec hret rfl (Or.inl rfl) (hb hbytes d46) hl)⟩
end Cmp5
namespace Cmp3
def yN : MethodName := ⟨"java/lang/StringUTF16", "compress", "([CII)[B"⟩
abbrev yB : ByteArray := jdk_52_method_16_code
theorem d0 : decode yB 0 = .ok (.iload_n 2, 1) := by decide +kernel
theorem d1 : decode yB 1 = .ok (.newarray .byte, 2) := by decide +kernel
theorem d3 : decode yB 3 = .ok (.astore_n 3, 1) := by decide +kernel
theorem d4 : decode yB 4 = .ok (.aload_n 0, 1) := by decide +kernel
theorem d5 : decode yB 5 = .ok (.iload_n 1, 1) := by decide +kernel
theorem d6 : decode yB 6 = .ok (.aload_n 3, 1) := by decide +kernel
theorem d7 : decode yB 7 = .ok (.iconst 0, 1) := by decide +kernel
theorem d8 : decode yB 8 = .ok (.iload_n 2, 1) := by decide +kernel
theorem d9 : decode yB 9 = .ok (.invokestatic 115, 3) := by decide +kernel
theorem d12 : decode yB 12 = .ok (.istore 4, 2) := by decide +kernel
theorem d14 : decode yB 14 = .ok (.iload 4, 2) := by decide +kernel
theorem d16 : decode yB 16 = .ok (.iload_n 2, 1) := by decide +kernel
theorem d17 : decode yB 17 = .ok (.if_icmp (.eq) 40, 3) := by decide +kernel
theorem d57 : decode yB 57 = .ok (.aload_n 3, 1) := by decide +kernel
theorem d58 : decode yB 58 = .ok (.areturn, 1) := by decide +kernel
def site : List Cond := [.arrayClass .byte, Cmp5.tab] ++ staticW U16 115 Cmp5.yN
def tab : Cond := tabOf yN yB 6 (some (.array .byte)) site
def P (b : Addr) (A : Cell) (o len : Nat) (args : Array Value) (s : State) : Prop := args = #[.ref b, .int (Int32.ofNat o), .int (Int32.ofNat len)] ∧ Ch b A s ∧ o + len ≤ A.slots.size ∧ len ≤ 536870912 ∧ ∀ i, i < len → ¬ 255 < cv A (o + i)
def E (b : Addr) (A : Cell) (o len : Nat) (r : Option Value) (s u : State) : Prop := NewArr .byte "[B" len (fun j => .int (lo8 (cv A (o + j)))) r s u ∧ u.heap.size = s.heap.size + 1
/-- no char of the range above 255: a new byte[] of their low bytes -/
theorem law (l : Launch) (b : Addr) (A : Cell) (o len : Nat) : Law l yN 3 3 1 18 yB 6 (some (.array .byte)) site (P b A o len) (E b A o len) [] 1 len := by
  refine Law.of_walk (plainFor_of_name (by decide +kernel)) (by decide +kernel) (by decide +kernel) (by decide) (fun _ _ h => by rw [h.1]; rfl) (fun _ U U' hal hh h => ⟨h.1, h.2.1.mv hal hh, h.2.2⟩) (fun r U U' V V' h1 hal h2 h => ⟨NewArr.mv r U U' V V' h1 hal h2 h.1, by rw [h1, h2]; exact h.2⟩) ?_
  intro p e s m args below meth c s₁ X0 hexec hbytes hml hret hlk hnm hown hh0 W hP
  obtain ⟨rfl, hA, l1, l2, hp⟩ := hP
  have a31 := hA.1.2.2.2
  have c1 : Steps p.tables e below (s₁.setTop (entryFrame m #[.ref b, .int (Int32.ofNat o), .int (Int32.ofNat len)] 6)) (s₁.setTop (mkF m 0 #[.val (.ref b), .val (.int (Int32.ofNat o)), .val (.int (Int32.ofNat len)), .unset, .unset, .unset] [])) := entry rfl
  have c2 : Steps p.tables e below (s₁.setTop (entryFrame m #[.ref b, .int (Int32.ofNat o), .int (Int32.ofNat len)] 6)) (s₁.setTop (mkF m 1 #[.val (.ref b), .val (.int (Int32.ofNat o)), .val (.int (Int32.ofNat len)), .unset, .unset, .unset] [.int (Int32.ofNat len)])) := c1.trans (by
    refine XS.iloadN X0.here hexec rfl (hb hbytes d0) rfl ?_
    exact Steps.refl _)
  obtain ⟨T3, B3, X3, ba3, bs3, bv3, bh3, bf3, st3⟩ := X0.anew hexec (atype := .byte) (wk W (.arrayClass .byte)) rfl (by show len * 1 ≤ _; omega) (by omega) (g := (mkF m 1 #[.val (.ref b), .val (.int (Int32.ofNat o)), .val (.int (Int32.ofNat len)), .unset, .unset, .unset] [.int (Int32.ofNat len)])) rfl (hb hbytes d1) (rest := []) rfl (Nat.le_refl _) (by show 0 + len ≤ len; omega)
  rw [hh0] at ba3 st3
  have kp3 : XT.Kept s T3 := (XT.Kept.of_eq hh0).push bh3
  have hA3 := hA.keep X3.warmed.alike (kp3 _ _ hA.1.1)
  have hne : b ≠ s.heap.size := hA.1.ne
  have c4 : Steps p.tables e below (s₁.setTop (entryFrame m #[.ref b, .int (Int32.ofNat o), .int (Int32.ofNat len)] 6)) (T3.setTop (mkF m 3 #[.val (.ref b), .val (.int (Int32.ofNat o)), .val (.int (Int32.ofNat len)), .unset, .unset, .unset] [.ref s.heap.size])) := c2.trans (st3 _ (Steps.refl _))
  have c5 : Steps p.tables e below (s₁.setTop (entryFrame m #[.ref b, .int (Int32.ofNat o), .int (Int32.ofNat len)] 6)) (T3.setTop (mkF m 9 #[.val (.ref b), .val (.int (Int32.ofNat o)), .val (.int (Int32.ofNat len)), .val (.ref s.heap.size), .unset, .unset] [.int (Int32.ofNat len), .int 0, .ref s.heap.size, .int (Int32.ofNat o), .ref b])) := c4.trans (by
    refine XS.astoreN X3.here hexec rfl (hb hbytes d3) rfl rfl rfl ?_
    refine XS.aloadN X3.here hexec rfl (hb hbytes d4) rfl rfl ?_
    refine XS.iloadN X3.here hexec rfl (hb hbytes d5) rfl ?_
    refine XS.aloadN X3.here hexec rfl (hb hbytes d6) rfl rfl ?_
    refine iconstV X3.here hexec rfl 0 (hb hbytes d7) (by decide) ?_
    refine XS.iloadN X3.here hexec rfl (hb hbytes d8) rfl ?_
    exact Steps.refl _)
  obtain ⟨v6, T6, X6, E6, g6⟩ := X3.callS hexec (Cmp5.law l b A s.heap.size B3 o 0 len) hown (wks W (staticW U16 115 Cmp5.yN)) (wk W Cmp5.tab) (W := 0) (Nat.le_of_ble_eq_true rfl) (Nat.le_of_ble_eq_true rfl) (Nat.le_refl _) (by show 0 + len + 0 ≤ len; omega) (g := (mkF m 9 #[.val (.ref b), .val (.int (Int32.ofNat o)), .val (.int (Int32.ofNat len)), .val (.ref s.heap.size), .unset, .unset] [.int (Int32.ofNat len), .int (Int32.ofNat 0), .ref s.heap.size, .int (Int32.ofNat o), .ref b])) rfl (by rw [hml]; rfl) c5 (argsL := [.ref b, .int (Int32.ofNat o), .ref s.heap.size, .int (Int32.ofNat 0), .int (Int32.ofNat len)]) (rest := []) rfl rfl (by show 2 * 0 + 0 ≤ _; decide) (hb hbytes d9) (⟨rfl, hA3, ba3, hne, l1, by rw [bs3]; simp, hp⟩)
  obtain ⟨rfl, B6, p6, f6⟩ := E6
  have c7 : Steps p.tables e below (s₁.setTop (entryFrame m #[.ref b, .int (Int32.ofNat o), .int (Int32.ofNat len)] 6)) (T6.setTop (mkF m 12 #[.val (.ref b), .val (.int (Int32.ofNat o)), .val (.int (Int32.ofNat len)), .val (.ref s.heap.size), .unset, .unset] [.int (Int32.ofNat len)])) := g6
  have c8 : Steps p.tables e below (s₁.setTop (entryFrame m #[.ref b, .int (Int32.ofNat o), .int (Int32.ofNat len)] 6)) (T6.setTop (mkF m 58 #[.val (.ref b), .val (.int (Int32.ofNat o)), .val (.int (Int32.ofNat len)), .val (.ref s.heap.size), .val (.int (Int32.ofNat len)), .unset] [.ref s.heap.size])) := c7.trans (by
    refine XS.istore X6.here hexec rfl (hb hbytes d12) rfl rfl ?_
    refine XS.iload X6.here hexec rfl (hb hbytes d14) rfl ?_
    refine XS.iloadN X6.here hexec rfl (hb hbytes d16) rfl ?_
    refine XS.icmpYes X6.here hexec rfl (pc0 := 17) rfl (hb hbytes d17) rfl (ii_eq_t rfl) (by decide) rfl ?_
    refine XS.aloadN X6.here hexec rfl (hb hbytes d57) rfl rfl ?_
    exact Steps.refl _)
  have X8 := X6.wide (L' := []) (cells' := 1) (slots' := len) (fun x hx hlt => by
    simp only [List.nil_append, copyLocs, List.mem_map, List.mem_range] at hx
    obtain ⟨i, -, rfl⟩ := hx
    exact absurd hlt (Nat.lt_irrefl _)) (Nat.le_refl _) (by omega)
  exact ⟨T6, some (.ref s.heap.size), _, _, _, X8, rfl, rfl, rfl, (fun h => by cases h), ⟨⟨rfl, B6, ba3.like (X3.warmed.alike.symm.trans X6.warmed.alike) p6.1 f6.1 f6.2.1 f6.2.2.1, f6.2.1.trans bv3, by rw [X6.warmed.alike.findClass, f6.1]; exact bf3, by rw [f6.2.2.1, bs3]; simp, fun j hj => by rw [f6.2.2.2 j, if_pos (by omega)]; rfl, kp3.put p6 (Nat.le_refl _)⟩, by rw [p6.2.2, bh3, hh0]; simp⟩, fun fs hl => c8.trans (X8.areturnOut hexec rfl hret rfl (hb hbytes d58) hl)⟩
end Cmp3
namespace CodL
def yN : MethodName := ⟨"java/lang/StringUTF16", "coderFromArrayLen", "([BI)B"⟩
abbrev yB : ByteArray := jdk_52_method_15_code
theorem d0 : decode yB 0 = .ok (.iload_n 1, 1) := by decide +kernel
theorem d1 : decode yB 1 = .ok (.aload_n 0, 1) := by decide +kernel
theorem d2 : decode yB 2 = .ok (.arraylength, 1) := by decide +kernel
theorem d3 : decode yB 3 = .ok (.isub, 1) := by decide +kernel
theorem d4 : decode yB 4 = .ok (.bipush 31, 2) := by decide +kernel
theorem d6 : decode yB 6 = .ok (.iushr, 1) := by decide +kernel
theorem d7 : decode yB 7 = .ok (.i2b, 1) := by decide +kernel
theorem d8 : decode yB 8 = .ok (.ireturn, 1) := by decide +kernel
def site : List Cond := []
def tab : Cond := tabOf yN yB 2 (some .byte) site
def P (d : Addr) (B : Cell) (args : Array Value) (s : State) : Prop := args = #[.ref d, .int (Int32.ofNat B.slots.size)] ∧ Arr .byte d B s
def E (r : Option Value) (s u : State) : Prop := XT.PureE (some (.int 0)) r s u
/-- an array as long as the number of chars: LATIN1 -/
theorem law (l : Launch) (d : Addr) (B : Cell) : Law l yN 2 2 0 0 yB 2 (some .byte) site (P d B) E [] 0 0 := by
  refine Law.of_walk (plainFor_of_name (by decide +kernel)) (by decide +kernel) (by decide +kernel) (by decide) (fun _ _ h => by rw [h.1]; rfl) (fun _ U U' hal hh h => ⟨h.1, h.2.mv hal hh⟩) (fun r U U' V V' h1 hal h2 h => XT.PureE.mv r U U' V V' h1 hal h2 h) ?_
  intro p e s m args below meth c s₁ X0 hexec hbytes hml hret hlk hnm hown hh0 W hP
  obtain ⟨rfl, hB⟩ := hP
  have hB0 := hB.mv X0.warmed.alike hh0
  have c1 : Steps p.tables e below (s₁.setTop (entryFrame m #[.ref d, .int (Int32.ofNat B.slots.size)] 2)) (s₁.setTop (mkF m 0 #[.val (.ref d), .val (.int (Int32.ofNat B.slots.size))] [])) := entry rfl
  have c2 : Steps p.tables e below (s₁.setTop (entryFrame m #[.ref d, .int (Int32.ofNat B.slots.size)] 2)) (s₁.setTop (mkF m 2 #[.val (.ref d), .val (.int (Int32.ofNat B.slots.size))] [.ref d, .int (Int32.ofNat B.slots.size)])) := c1.trans (by
    refine XS.iloadN X0.here hexec rfl (hb hbytes d0) rfl ?_
    refine XS.aloadN X0.here hexec rfl (hb hbytes d1) rfl rfl ?_
    exact Steps.refl _)
  have c3 : Steps p.tables e below (s₁.setTop (entryFrame m #[.ref d, .int (Int32.ofNat B.slots.size)] 2)) (s₁.setTop (mkF m 8 #[.val (.ref d), .val (.int (Int32.ofNat B.slots.size))] [.int (lo8 (ushr (Int32.ofNat B.slots.size - Int32.ofNat B.slots.size) 31))])) := c2.trans (by
    refine X0.alen hexec hB0 rfl rfl (hb hbytes d2) ?_
    refine XS.isub X0.here hexec rfl (hb hbytes d3) rfl ?_
    refine bipushV X0.here hexec rfl 31 (hb hbytes d4) (by decide) ?_
    refine iushr X0.here hexec rfl (hb hbytes d6) rfl ?_
    refine i2b X0.here hexec rfl (hb hbytes d7) rfl ?_
    exact Steps.refl _)
  have e0 : lo8 (ushr (Int32.ofNat B.slots.size - Int32.ofNat B.slots.size) 31) = 0 := by rw [Int32.sub_self]; decide
  rw [e0] at c3
  exact ⟨s₁, some (.int 0), _, _, _, X0, rfl, rfl, rfl, (fun h => by cases h), ⟨rfl, hh0⟩, fun fs hl => c3.trans (X0.ireturnOut hexec hret rfl (Or.inr (Or.inr (Or.inl rfl))) (hb hbytes d8) hl)⟩
end CodL
/-- the String at a is Latin-1 over a new byte[] (the heap's one new cell): the low bytes of the len chars of A from o on; every cell but a is kept -/
def Got (a : Addr) (D : Cell) (fV fC : Field) (A : Cell) (o len : Nat) (r : Option Value) (s u : State) : Prop := r = none ∧ ∃ D' V : Cell, Blank "java/lang/String" a D' u ∧ Same D D' [fV.slot, fC.slot] ∧ D'.slots[fV.slot]? = some (.ref s.heap.size) ∧ D'.slots[fC.slot]? = some (.int 0) ∧ Arr .byte s.heap.size V u ∧ V.vm = .none ∧ u.vm.findClass "[B" = some V.cls ∧ V.slots.size = len ∧ (∀ j, j < len → V.slots[j]? = some (.int (lo8 (cv A (o + j))))) ∧ (∀ (y : Addr) (c : Cell), y ≠ a → s.heap[y]? = some c → u.heap[y]? = some c) ∧ u.heap.size = s.heap.size + 1
theorem Got.mv {a : Addr} {D A : Cell} {fV fC : Field} {o len : Nat} : ∀ r (U U' V V' : State), U'.heap = U.heap → V.vm.Alike V'.vm → V'.heap = V.heap → Got a D fV fC A o len r U V → Got a D fV fC A o len r U' V' :=
  fun r U U' V V' h1 hal h2 ⟨e0, D', X, a1, a2, a3, a4, a5, a6, a7, a8, a9, a10, a11⟩ => ⟨e0, D', X, a1.mv hal h2, a2, by rw [h1]; exact a3, a4, by rw [h1]; exact a5.mv hal h2, a6, by rw [hal.findClass]; exact a7, a8, a9, by rw [h1, h2]; exact a10, by rw [h1, h2]; exact a11⟩
namespace New4
def yN : MethodName := ⟨"java/lang/String", "<init>", "([CIILjava/lang/Void;)V"⟩
abbrev yB : ByteArray := jdk_42_method_149_code
theorem d0 : decode yB 0 = .ok (.aload_n 0, 1) := by decide +kernel
theorem d1 : decode yB 1 = .ok (.invokespecial 1, 3) := by decide +kernel
theorem d4 : decode yB 4 = .ok (.iload_n 3, 1) := by decide +kernel
theorem d5 : decode yB 5 = .ok (.ifCond (.ne) 22, 3) := by decide +kernel
theorem d27 : decode yB 27 = .ok (.getstatic 38, 3) := by decide +kernel
theorem d30 : decode yB 30 = .ok (.ifCond (.eq) 28, 3) := by decide +kernel
theorem d33 : decode yB 33 = .ok (.aload_n 1, 1) := by decide +kernel
theorem d34 : decode yB 34 = .ok (.iload_n 2, 1) := by decide +kernel
theorem d35 : decode yB 35 = .ok (.iload_n 3, 1) := by decide +kernel
theorem d36 : decode yB 36 = .ok (.invokestatic 177, 3) := by decide +kernel
theorem d39 : decode yB 39 = .ok (.astore 5, 2) := by decide +kernel
theorem d41 : decode yB 41 = .ok (.aload_n 0, 1) := by decide +kernel
theorem d42 : decode yB 42 = .ok (.aload 5, 2) := by decide +kernel
theorem d44 : decode yB 44 = .ok (.iload_n 3, 1) := by decide +kernel
theorem d45 : decode yB 45 = .ok (.invokestatic 47, 3) := by decide +kernel
theorem d48 : decode yB 48 = .ok (.putfield 15, 3) := by decide +kernel
theorem d51 : decode yB 51 = .ok (.aload_n 0, 1) := by decide +kernel
theorem d52 : decode yB 52 = .ok (.aload 5, 2) := by decide +kernel
theorem d54 : decode yB 54 = .ok (.putfield 9, 3) := by decide +kernel
theorem d57 : decode yB 57 = .ok (.return_, 1) := by decide +kernel
def site : List Cond := [.fieldLink "java/lang/String" 38 "java/lang/String" "COMPACT_STRINGS" "Z", Cmp3.tab, CodL.tab, .laysFinal "java/lang/String" "java/lang/String" "value" "[B", .fieldLink "java/lang/String" 9 "java/lang/String" "value" "[B", .laysFinal "java/lang/String" "java/lang/String" "coder" "B", .fieldLink "java/lang/String" 15 "java/lang/String" "coder" "B"] ++ objW "java/lang/String" 1 ++ staticW "java/lang/String" 177 Cmp3.yN ++ staticW "java/lang/String" 47 CodL.yN
def tab : Cond := tabOf yN yB 6 none site
def P (a : Addr) (D : Cell) (fV fC : Field) (b : Addr) (A : Cell) (z : Int32) (o len : Nat) (args : Array Value) (s : State) : Prop := args = #[.ref a, .ref b, .int (Int32.ofNat o), .int (Int32.ofNat len), .null] ∧ Blank "java/lang/String" a D s ∧ Found "java/lang/String" "value" "[B" fV s ∧ Found "java/lang/String" "coder" "B" fC s ∧ Ch b A s ∧ StaticIs s "java/lang/String" "COMPACT_STRINGS" "Z" (.int z) ∧ ¬ z = 0 ∧ 0 < len ∧ o + len ≤ A.slots.size ∧ len ≤ 536870912 ∧ ∀ i, i < len → ¬ 255 < cv A (o + i)
def E (a : Addr) (D : Cell) (fV fC : Field) (A : Cell) (o len : Nat) (r : Option Value) (s u : State) : Prop := Got a D fV fC A o len r s u
/-- len > 0, no char of the range above 255: a Latin-1 String of their low bytes -/
theorem law (l : Launch) (a : Addr) (D : Cell) (fV fC : Field) (b : Addr) (A : Cell) (z : Int32) (o len : Nat) : Law l yN 5 4 2 35 yB 6 none site (P a D fV fC b A z o len) (E a D fV fC A o len) [⟨a, fC.slot⟩, ⟨a, fV.slot⟩] 1 len := by
  refine Law.of_walk (plainFor_of_name (by decide +kernel)) (by decide +kernel) (by decide +kernel) (by decide) (fun _ _ h => by rw [h.1]; rfl) (fun _ U U' hal hh h => ⟨h.1, h.2.1.mv hal hh, h.2.2.1.al hal, h.2.2.2.1.al hal, h.2.2.2.2.1.mv hal hh, h.2.2.2.2.2.1.there hal hh, h.2.2.2.2.2.2⟩) (fun r U U' V V' h1 hal h2 h => Got.mv r U U' V V' h1 hal h2 h) ?_
  intro p e s m args below meth c s₁ X0 hexec hbytes hml hret hlk hnm hown hh0 W hP
  obtain ⟨rfl, hB, f1, f2, hA, s1, hz, l0, l1, l2, hp⟩ := hP
  have a31 := hA.1.2.2.2
  have c1 : Steps p.tables e below (s₁.setTop (entryFrame m #[.ref a, .ref b, .int (Int32.ofNat o), .int (Int32.ofNat len), .null] 6)) (s₁.setTop (mkF m 0 #[.val (.ref a), .val (.ref b), .val (.int (Int32.ofNat o)), .val (.int (Int32.ofNat len)), .val .null, .unset] [])) := entry rfl
  have c2 : Steps p.tables e below (s₁.setTop (entryFrame m #[.ref a, .ref b, .int (Int32.ofNat o), .int (Int32.ofNat len), .null] 6)) (s₁.setTop (mkF m 1 #[.val (.ref a), .val (.ref b), .val (.int (Int32.ofNat o)), .val (.int (Int32.ofNat len)), .val .null, .unset] [.ref a])) := c1.trans (by
    refine XS.aloadN X0.here hexec rfl (hb hbytes d0) rfl rfl ?_
    exact Steps.refl _)
  obtain ⟨T3, X3, q3, st3⟩ := X0.oinit hexec hown (wks W (objW "java/lang/String" 1)) (g := (mkF m 1 #[.val (.ref a), .val (.ref b), .val (.int (Int32.ofNat o)), .val (.int (Int32.ofNat len)), .val .null, .unset] [.ref a])) rfl (by rw [hml]; rfl) (rest := []) rfl (hb hbytes d1) (W := 0) (by show 2 * 0 + 0 ≤ _; decide) (Nat.le_of_ble_eq_true rfl) (Nat.le_of_ble_eq_true rfl)
  have hh3 := q3.trans hh0
  have c4 : Steps p.tables e below (s₁.setTop (entryFrame m #[.ref a, .ref b, .int (Int32.ofNat o), .int (Int32.ofNat len), .null] 6)) (T3.setTop (mkF m 27 #[.val (.ref a), .val (.ref b), .val (.int (Int32.ofNat o)), .val (.int (Int32.ofNat len)), .val .null, .unset] [])) := (c2.trans (st3 _ (Steps.refl _))).trans (by
    refine XS.iloadN X3.here hexec rfl (hb hbytes d4) rfl ?_
    refine XS.ifYes X3.here hexec rfl (pc0 := 5) rfl (hb hbytes d5) rfl (i0_ne_t (nz32 (by omega) l0)) (by decide) rfl ?_
    exact Steps.refl _)
  obtain ⟨T5, X5, q5, st5⟩ := X3.sget hexec hown (wk W (.fieldLink "java/lang/String" 38 "java/lang/String" "COMPACT_STRINGS" "Z")) s1 (fun _ _ h => by rw [hh3]; exact h) (g := (mkF m 27 #[.val (.ref a), .val (.ref b), .val (.int (Int32.ofNat o)), .val (.int (Int32.ofNat len)), .val .null, .unset] [])) rfl (hb hbytes d27)
  have hh5 := q5.trans hh3
  have c6 : Steps p.tables e below (s₁.setTop (entryFrame m #[.ref a, .ref b, .int (Int32.ofNat o), .int (Int32.ofNat len), .null] 6)) (T5.setTop (mkF m 30 #[.val (.ref a), .val (.ref b), .val (.int (Int32.ofNat o)), .val (.int (Int32.ofNat len)), .val .null, .unset] [.int z])) := c4.trans (st5 _ (Steps.refl _))
  have c7 : Steps p.tables e below (s₁.setTop (entryFrame m #[.ref a, .ref b, .int (Int32.ofNat o), .int (Int32.ofNat len), .null] 6)) (T5.setTop (mkF m 36 #[.val (.ref a), .val (.ref b), .val (.int (Int32.ofNat o)), .val (.int (Int32.ofNat len)), .val .null, .unset] [.int (Int32.ofNat len), .int (Int32.ofNat o), .ref b])) := c6.trans (by
    refine XS.ifNo X5.here hexec rfl (hb hbytes d30) rfl (i0_eq_f hz) ?_
    refine XS.aloadN X5.here hexec rfl (hb hbytes d33) rfl rfl ?_
    refine XS.iloadN X5.here hexec rfl (hb hbytes d34) rfl ?_
    refine XS.iloadN X5.here hexec rfl (hb hbytes d35) rfl ?_
    exact Steps.refl _)
  obtain ⟨v8, T8, X8, E8, g8⟩ := X5.callS hexec (Cmp3.law l b A o len) hown (wks W (staticW "java/lang/String" 177 Cmp3.yN)) (wk W Cmp3.tab) (W := 0) (Nat.le_of_ble_eq_true rfl) (Nat.le_of_ble_eq_true rfl) (Nat.le_refl _) (by show 0 + len ≤ len; omega) (g := (mkF m 36 #[.val (.ref a), .val (.ref b), .val (.int (Int32.ofNat o)), .val (.int (Int32.ofNat len)), .val .null, .unset] [.int (Int32.ofNat len), .int (Int32.ofNat o), .ref b])) rfl (by rw [hml]; rfl) c7 (argsL := [.ref b, .int (Int32.ofNat o), .int (Int32.ofNat len)]) (rest := []) rfl rfl (by show 2 * 0 + 0 ≤ _; decide) (hb hbytes d36) (⟨rfl, hA.mv X5.warmed.alike hh5, l1, l2, hp⟩)
  obtain ⟨e8, z8⟩ := E8
  obtain ⟨rfl, N, n1, n2, n3, n4, n5, n6⟩ := NewArr.mv _ T5 s _ _ hh5.symm (Vm.Alike.refl _) rfl e8
  rw [hh5] at z8
  have hB1 := hB.keep X8.warmed.alike (n6 _ _ hB.1)
  have hne : s.heap.size ≠ a := (Nat.ne_of_lt (Array.getElem?_eq_some_iff.mp hB.1).1).symm
  have c9 : Steps p.tables e below (s₁.setTop (entryFrame m #[.ref a, .ref b, .int (Int32.ofNat o), .int (Int32.ofNat len), .null] 6)) (T8.setTop (mkF m 39 #[.val (.ref a), .val (.ref b), .val (.int (Int32.ofNat o)), .val (.int (Int32.ofNat len)), .val .null, .unset] [.ref s.heap.size])) := g8
  have c10 : Steps p.tables e below (s₁.setTop (entryFrame m #[.ref a, .ref b, .int (Int32.ofNat o), .int (Int32.ofNat len), .null] 6)) (T8.setTop (mkF m 45 #[.val (.ref a), .val (.ref b), .val (.int (Int32.ofNat o)), .val (.int (Int32.ofNat len)), .val .null, .val (.ref s.heap.size)] [.int (Int32.ofNat N.slots.size), .ref s.heap.size, .ref a])) := by
    have hc : Steps p.tables e below (s₁.setTop (entryFrame m #[.ref a, .ref b, .int (Int32.ofNat o), .int (Int32.ofNat len), .null] 6)) (T8.setTop (mkF m 45 #[.val (.ref a), .val (.ref b), .val (.int (Int32.ofNat o)), .val (.int (Int32.ofNat len)), .val .null, .val (.ref s.heap.size)] [.int (Int32.ofNat len), .ref s.heap.size, .ref a])) := c9.trans (by
      refine XS.astore X8.here hexec rfl (hb hbytes d39) rfl rfl rfl ?_
      refine XS.aloadN X8.here hexec rfl (hb hbytes d41) rfl rfl ?_
      refine XS.aload X8.here hexec rfl (hb hbytes d42) rfl rfl ?_
      refine XS.iloadN X8.here hexec rfl (hb hbytes d44) rfl ?_
      exact Steps.refl _)
    rw [n4]; exact hc
  obtain ⟨v11, T11, X11, E11, g11⟩ := X8.callS hexec (CodL.law l s.heap.size N) hown (wks W (staticW "java/lang/String" 47 CodL.yN)) (wk W CodL.tab) (W := 1) (Nat.le_of_ble_eq_true rfl) (Nat.le_of_ble_eq_true rfl) (Nat.le_refl _) (by show 0 + len + 0 ≤ len; omega) (g := (mkF m 45 #[.val (.ref a), .val (.ref b), .val (.int (Int32.ofNat o)), .val (.int (Int32.ofNat len)), .val .null, .val (.ref s.heap.size)] [.int (Int32.ofNat N.slots.size), .ref s.heap.size, .ref a])) rfl (by rw [hml]; rfl) c10 (argsL := [.ref s.heap.size, .int (Int32.ofNat N.slots.size)]) (rest := [.ref a]) rfl rfl (by show 2 * 0 + (1 + 0) ≤ _; decide) (hb hbytes d45) (⟨rfl, n1⟩)
  obtain ⟨rfl, q11⟩ := E11
  have hB11 := hB1.mv (X8.warmed.alike.symm.trans X11.warmed.alike) q11
  have c12 : Steps p.tables e below (s₁.setTop (entryFrame m #[.ref a, .ref b, .int (Int32.ofNat o), .int (Int32.ofNat len), .null] 6)) (T11.setTop (mkF m 48 #[.val (.ref a), .val (.ref b), .val (.int (Int32.ofNat o)), .val (.int (Int32.ofNat len)), .val .null, .val (.ref s.heap.size)] [.int 0, .ref a])) := g11
  obtain ⟨T13, X13, p13, bl13, sl13, st13⟩ := X11.finit hexec hown (wk W (.fieldLink "java/lang/String" 15 "java/lang/String" "coder" "B")) (Or.inr ⟨_, (wk W (.laysFinal "java/lang/String" "java/lang/String" "coder" "B"))⟩) (Or.inl ⟨rfl, hnm⟩) f2 (Or.inl rfl) hB11 (t := .byte) (by decide +kernel) rfl (g := (mkF m 48 #[.val (.ref a), .val (.ref b), .val (.int (Int32.ofNat o)), .val (.int (Int32.ofNat len)), .val .null, .val (.ref s.heap.size)] [.int 0, .ref a])) rfl (rest := []) rfl (hb hbytes d48)
  have c14 : Steps p.tables e below (s₁.setTop (entryFrame m #[.ref a, .ref b, .int (Int32.ofNat o), .int (Int32.ofNat len), .null] 6)) (T13.setTop (mkF m 54 #[.val (.ref a), .val (.ref b), .val (.int (Int32.ofNat o)), .val (.int (Int32.ofNat len)), .val .null, .val (.ref s.heap.size)] [.ref s.heap.size, .ref a])) := (c12.trans (st13 _ (Steps.refl _))).trans (by
    refine XS.aloadN X13.here hexec rfl (hb hbytes d51) rfl rfl ?_
    refine XS.aload X13.here hexec rfl (hb hbytes d52) rfl rfl ?_
    exact Steps.refl _)
  obtain ⟨T15, X15, p15, bl15, sl15, st15⟩ := X13.finit hexec hown (wk W (.fieldLink "java/lang/String" 9 "java/lang/String" "value" "[B")) (Or.inr ⟨_, (wk W (.laysFinal "java/lang/String" "java/lang/String" "value" "[B"))⟩) (Or.inl ⟨rfl, hnm⟩) f1 (Or.inl rfl) bl13 (t := (.array .byte)) (by decide +kernel) rfl (g := (mkF m 54 #[.val (.ref a), .val (.ref b), .val (.int (Int32.ofNat o)), .val (.int (Int32.ofNat len)), .val .null, .val (.ref s.heap.size)] [.ref s.heap.size, .ref a])) rfl (rest := []) rfl (hb hbytes d54)
  have c16 : Steps p.tables e below (s₁.setTop (entryFrame m #[.ref a, .ref b, .int (Int32.ofNat o), .int (Int32.ofNat len), .null] 6)) (T15.setTop (mkF m 57 #[.val (.ref a), .val (.ref b), .val (.int (Int32.ofNat o)), .val (.int (Int32.ofNat len)), .val .null, .val (.ref s.heap.size)] [])) := c14.trans (st15 _ (Steps.refl _))
  have ap := apart (Or.inr ⟨_, (wk W (.laysFinal "java/lang/String" "java/lang/String" "value" "[B"))⟩) (Or.inr ⟨_, (wk W (.laysFinal "java/lang/String" "java/lang/String" "coder" "B"))⟩) f1 f2 (t₁ := .array .byte) (t₂ := .byte) (by decide +kernel) (by decide +kernel) (by decide)
  have al := X8.warmed.alike.symm.trans X15.warmed.alike
  have n7 : T11.heap[s.heap.size]? = some N := by rw [q11]; exact n1.1
  exact ⟨T15, none, _, _, _, X15, by simp, rfl, by omega, (fun _ => rfl), ⟨rfl, _, N, bl15, ((Same.refl D _).set _ (by simp)).set _ (by simp), sl15, (Cell.slots_setSlot_ne _ ap).trans sl13, n1.keep al (p15.other hne (p13.other hne n7)), n2, by rw [al.findClass]; exact n3, n4, n5, fun y c h1 h2 => p15.other h1 (p13.other h1 (by rw [q11]; exact n6 y c h2)), by rw [p15.2.2, p13.2.2, q11]; exact z8⟩, fun fs hl => c16.trans (X15.returnOut hexec hret (hb hbytes d57) hl)⟩
end New4
namespace New1
def yN : MethodName := ⟨"java/lang/String", "<init>", "([C)V"⟩
abbrev yB : ByteArray := jdk_42_method_3_code
theorem d0 : decode yB 0 = .ok (.aload_n 0, 1) := by decide +kernel
theorem d1 : decode yB 1 = .ok (.aload_n 1, 1) := by decide +kernel
theorem d2 : decode yB 2 = .ok (.iconst 0, 1) := by decide +kernel
theorem d3 : decode yB 3 = .ok (.aload_n 1, 1) := by decide +kernel
theorem d4 : decode yB 4 = .ok (.arraylength, 1) := by decide +kernel
theorem d5 : decode yB 5 = .ok (.aconst_null, 1) := by decide +kernel
theorem d6 : decode yB 6 = .ok (.invokespecial 27, 3) := by decide +kernel
theorem d9 : decode yB 9 = .ok (.return_, 1) := by decide +kernel
def site : List Cond := [New4.tab] ++ initW "java/lang/String" 27 New4.yN
def tab : Cond := tabOf yN yB 2 none site
def P (a : Addr) (D : Cell) (fV fC : Field) (b : Addr) (A : Cell) (z : Int32) (args : Array Value) (s : State) : Prop := args = #[.ref a, .ref b] ∧ Blank "java/lang/String" a D s ∧ Found "java/lang/String" "value" "[B" fV s ∧ Found "java/lang/String" "coder" "B" fC s ∧ Ch b A s ∧ StaticIs s "java/lang/String" "COMPACT_STRINGS" "Z" (.int z) ∧ ¬ z = 0 ∧ 0 < A.slots.size ∧ A.slots.size ≤ 536870912 ∧ ∀ i, i < A.slots.size → ¬ 255 < cv A i
def E (a : Addr) (D : Cell) (fV fC : Field) (A : Cell) (r : Option Value) (s u : State) : Prop := Got a D fV fC A 0 A.slots.size r s u
/-- new String(chars), not empty, no char above 255: a Latin-1 String of their low bytes -/
theorem law (l : Launch) (a : Addr) (D : Cell) (fV fC : Field) (b : Addr) (A : Cell) (z : Int32) : Law l yN 2 1 3 52 yB 2 none site (P a D fV fC b A z) (E a D fV fC A) [⟨a, fC.slot⟩, ⟨a, fV.slot⟩] 1 A.slots.size := by
  refine Law.of_walk (plainFor_of_name (by decide +kernel)) (by decide +kernel) (by decide +kernel) (by decide) (fun _ _ h => by rw [h.1]; rfl) (fun _ U U' hal hh h => ⟨h.1, h.2.1.mv hal hh, h.2.2.1.al hal, h.2.2.2.1.al hal, h.2.2.2.2.1.mv hal hh, h.2.2.2.2.2.1.there hal hh, h.2.2.2.2.2.2⟩) (fun r U U' V V' h1 hal h2 h => Got.mv r U U' V V' h1 hal h2 h) ?_
  intro p e s m args below meth c s₁ X0 hexec hbytes hml hret hlk hnm hown hh0 W hP
  obtain ⟨rfl, hB, f1, f2, hA, s1, hz, l0, l2, hp⟩ := hP
  have c1 : Steps p.tables e below (s₁.setTop (entryFrame m #[.ref a, .ref b] 2)) (s₁.setTop (mkF m 0 #[.val (.ref a), .val (.ref b)] [])) := entry rfl
  have c2 : Steps p.tables e below (s₁.setTop (entryFrame m #[.ref a, .ref b] 2)) (s₁.setTop (mkF m 6 #[.val (.ref a), .val (.ref b)] [.null, .int (Int32.ofNat A.slots.size), .int 0, .ref b, .ref a])) := c1.trans (by
    refine XS.aloadN X0.here hexec rfl (hb hbytes d0) rfl rfl ?_
    refine XS.aloadN X0.here hexec rfl (hb hbytes d1) rfl rfl ?_
    refine iconstV X0.here hexec rfl 0 (hb hbytes d2) (by decide) ?_
    refine XS.aloadN X0.here hexec rfl (hb hbytes d3) rfl rfl ?_
    refine X0.alen hexec (hA.1.mv X0.warmed.alike hh0) rfl rfl (hb hbytes d4) ?_
    refine XS.aconstNull X0.here hexec rfl (hb hbytes d5) ?_
    exact Steps.refl _)
  obtain ⟨v3, T3, X3, E3, g3⟩ := X0.callN hexec (New4.law l a D fV fC b A z 0 A.slots.size) rfl hown (wks W (initW "java/lang/String" 27 New4.yN)) (W New4.tab (by simp only [site, List.mem_cons, List.mem_append, true_or, or_true])) (W := 0) (Nat.le_of_ble_eq_true rfl) (Nat.le_of_ble_eq_true rfl) (Nat.le_refl _) (by show 0 + A.slots.size ≤ A.slots.size; omega) (g := (mkF m 6 #[.val (.ref a), .val (.ref b)] [.null, .int (Int32.ofNat A.slots.size), .int (Int32.ofNat 0), .ref b, .ref a])) rfl (by rw [hml]; rfl) c2 (argsL := [.ref b, .int (Int32.ofNat 0), .int (Int32.ofNat A.slots.size), .null]) (rest := []) rfl rfl (by show 2 * 0 + 0 ≤ _; decide) (hb hbytes d6) (⟨rfl, hB.mv X0.warmed.alike hh0, f1.al X0.warmed.alike, f2.al X0.warmed.alike, hA.mv X0.warmed.alike hh0, s1.there X0.warmed.alike hh0, hz, l0, by omega, l2, fun i hi => by rw [Nat.zero_add]; exact hp i hi⟩)
  have e0 := Got.mv _ s₁ s _ _ hh0.symm (Vm.Alike.refl _) rfl E3
  obtain rfl := e0.1
  have c4 : Steps p.tables e below (s₁.setTop (entryFrame m #[.ref a, .ref b] 2)) (T3.setTop (mkF m 9 #[.val (.ref a), .val (.ref b)] [])) := g3
  exact ⟨T3, none, _, _, _, X3, by simp, rfl, by omega, (fun _ => rfl), e0, fun fs hl => c4.trans (X3.returnOut hexec hret (hb hbytes d9) hl)⟩
theorem pays {l : Launch} {R : Room} {p : Program} {e : Env} {below : List Frame} {s : State} {sargs : Array Value} {len W : Nat} (a : Addr) (D : Cell) (fV fC : Field) (b : Addr) (A : Cell) (z : Int32) (htab : tab.before sargs s = true) (hfr : 4 ≤ R.frames) (hlo : W + 65 ≤ R.locals) :
    Back l R p e below s sargs yN len W (fun A₁ a₁ => A₁.cells + 1 ≤ R.cells ∧ A₁.slots + A.slots.size ≤ R.slots ∧ P a D fV fC b A z a₁ A₁.U) (fun A₁ _ v₁ B₁ => E a D fV fC A v₁ A₁.U B₁.U ∧ B₁.locs = A₁.locs ++ [⟨a, fC.slot⟩, ⟨a, fV.slot⟩] ∧ B₁.cells = A₁.cells + 1 ∧ B₁.slots = A₁.slots + A.slots.size) :=
  (law l a D fV fC b A z).pays htab hfr (by omega)
end New1
/-- the byte, read back as charAt reads it, is the char -/
theorem lo8_mask {x : Int32} (h0 : ¬ x < 0) (h1 : ¬ 255 < x) : lo8 x &&& 255 = x := by
  have t : ∀ k : Fin 256, lo8 (Int32.ofNat k.val) &&& 255 = Int32.ofNat k.val := by decide +kernel
  rw [Int32.lt_iff_toInt_lt] at h0 h1
  have e0 : (0 : Int32).toInt = 0 := rfl
  have e1 : (255 : Int32).toInt = 255 := rfl
  obtain ⟨k, hk⟩ : ∃ k : Nat, x.toInt = k := ⟨x.toInt.toNat, by omega⟩
  have hx : x = Int32.ofNat k := Int32.toInt_inj.mp (by rw [hk, Int32.toInt_ofNat_small (by omega)])
  rw [hx]
  exact t ⟨k, by omega⟩
end StrChars
namespace StrChars.Road
open Jvm Sem ClassFile Op Lib Jvm.Stand Jvm.Free Jvm.Free.XT
open Jvm.Lib.Cold (StaticIs)
abbrev ST : String := "java/lang/String"
/-- every table word that New1's law asks, flat -/
abbrev words : List Jvm.Cond := [.code New1.yN New1.yB 2 none, .initialized ST, .methodLink ST 27 New4.yN, .instanceMethod New4.yN,
  .code New4.yN New4.yB 6 none, .fieldLink ST 38 ST "COMPACT_STRINGS" "Z", .laysFinal ST ST "value" "[B", .fieldLink ST 9 ST "value" "[B", .laysFinal ST ST "coder" "B", .fieldLink ST 15 ST "coder" "B",
  .methodLink ST 1 Lib.objectInit, .instanceMethod Lib.objectInit, .code Lib.objectInit ⟨#[0xb1]⟩ 1 none, .methodLink ST 177 Cmp3.yN, .static Cmp3.yN, .methodLink ST 47 CodL.yN, .static CodL.yN,
  .code Cmp3.yN Cmp3.yB 6 (some (.array .byte)), .initialized U16, .arrayClass .byte, .methodLink U16 115 Cmp5.yN, .static Cmp5.yN, .code Cmp5.yN Cmp5.yB 7 (some .int), .code CodL.yN CodL.yB 2 (some .byte)]
theorem tab_of {a : Array Value} {s : State} (h : ∀ w ∈ words, w.before a s = true) : New1.tab.before a s = true := by
  have h5 : Cmp5.tab.before a s = true := unparts (wk h (.code Cmp5.yN Cmp5.yB 7 (some .int))) (wks h (.initialized Cmp5.yN.cls :: Cmp5.site))
  have hc : CodL.tab.before a s = true := unparts (wk h (.code CodL.yN CodL.yB 2 (some .byte))) (wks h (.initialized CodL.yN.cls :: CodL.site))
  have q5 : ∀ w ∈ Cmp5.tab :: words, w.before a s = true := fun w hw => (List.mem_cons.mp hw).elim (fun e => e ▸ h5) (h w)
  have h3 : Cmp3.tab.before a s = true := unparts (wk q5 (.code Cmp3.yN Cmp3.yB 6 (some (.array .byte)))) (wks q5 (.initialized Cmp3.yN.cls :: Cmp3.site))
  have q3 : ∀ w ∈ Cmp3.tab :: CodL.tab :: words, w.before a s = true := fun w hw => (List.mem_cons.mp hw).elim (fun e => e ▸ h3) fun hw => (List.mem_cons.mp hw).elim (fun e => e ▸ hc) (h w)
  have h4 : New4.tab.before a s = true := unparts (wk q3 (.code New4.yN New4.yB 6 none)) (wks q3 (.initialized New4.yN.cls :: New4.site))
  have q4 : ∀ w ∈ New4.tab :: words, w.before a s = true := fun w hw => (List.mem_cons.mp hw).elim (fun e => e ▸ h4) (h w)
  exact unparts (wk q4 (.code New1.yN New1.yB 2 none)) (wks q4 (.initialized New1.yN.cls :: New1.site))
/-- the words ride from the start Z to the walk's own state -/
theorem moved {Z s : State} {a0 args : Array Value} (hZ : Z.Warmed39 s.vm) (hw : ∀ d ∈ words, d.before a0 Z = true) : ∀ d ∈ words, d.before args s = true := fun d hd => by
  have q := hw d hd
  have t : ∀ d ∈ words, d = .arrayClass .byte ∨ (d.onTables && d.keepsFace) = true := by decide +kernel
  rcases t d hd with rfl | t
  · exact RoadKit.mvA hZ q
  · exact RoadKit.mv hZ q t
/-- WHAT COMES BACK, over the tables of the start Z: h the heap at the call, h' behind it -/
def Q (Z : State) (x : Addr) (A : Cell) (h : Heap) (v : Option Value) (h' : Heap) (L : List Loc) : Prop := v = none ∧ (∀ y ∈ L, y.base = x) ∧ RoadKit.Keep h h' [x] ∧ h'.size = h.size + 1 ∧ RoadKit.Exa Z h' x ST ∧ RoadKit.Fld Z h' x ST "value" "[B" (.ref h.size) ∧ RoadKit.Fld Z h' x ST "coder" "B" (.int 0) ∧
  (∃ V : Cell, RoadKit.Arr Z h' h.size V .byte ∧ V.vm = .none ∧ Z.vm.findClass "[B" = some V.cls ∧ V.slots.size = A.slots.size ∧ ∀ j, j < A.slots.size → V.slots[j]? = some (.int (lo8 (cv A j)))) ∧
  ∀ (O n d : String) (w : Value), RoadKit.Fld Z h x O n d w → RoadKit.slotOf Z O n d ≠ RoadKit.slotOf Z ST "value" "[B" → RoadKit.slotOf Z O n d ≠ RoadKit.slotOf Z ST "coder" "B" → RoadKit.Fld Z h' x O n d w
/-- **new String(chars) AT A CALL, IN THE ROAD'S FORM**: for specialBack behind newO: x the fresh String, b the char[] with the cell A -/
theorem back {p : Program} {l : Launch} {e : Env} {R : Room} {s : State} {args : Array Value} {below : List Frame} {len W : Nat} {Z : State} {a0 : Array Value} {h : Heap} (hZ : Z.Warmed39 s.vm) (hw : ∀ d ∈ words, d.before a0 Z = true) {kI : Nat} (wi : (Jvm.Cond.instantiable ST kI).before a0 Z = true)
    {x b : Addr} {A : Cell} {z : Int32} {v0 c0 : Value} (E : RoadKit.Exa Z h x ST) (V : RoadKit.Fld Z h x ST "value" "[B" v0) (C : RoadKit.Fld Z h x ST "coder" "B" c0) (K : RoadKit.Arr Z h b A .char) (hty : Typed .char A) (S : RoadKit.Sta Z h ST "COMPACT_STRINGS" "Z" (.int z)) (hz : ¬ z = 0)
    (l0 : 0 < A.slots.size) (l2 : A.slots.size ≤ 536870912) (hp : ∀ i, i < A.slots.size → ¬ 255 < cv A i) (hfr : 4 ≤ R.frames) (hlo : W + 65 ≤ R.locals) :
    Back l R p e below s args New1.yN len W (fun P a => a = #[.ref x, .ref b] ∧ P.U.heap = h ∧ P.cells + 1 ≤ R.cells ∧ P.slots + A.slots.size ≤ R.slots)
      (fun P _ v B => ∃ L, Q Z x A h v B.U.heap L ∧ B.locs = P.locs ++ L ∧ B.cells = P.cells + 1 ∧ B.slots = P.slots + A.slots.size) := by
  intro m meth c P g ig mk a X hg hsize hdg hW hn hp'
  obtain ⟨rfl, rfl, r1, r2⟩ := hp'
  have al : Z.vm.Alike P.U.vm := hZ.alike.trans X.warmed.alike
  obtain ⟨D, cfV, kV, iV, fV, hD, gV, stV, knV, obV, asV, slV⟩ := id V
  obtain ⟨D', cfC, kC, iC, fC, hD', gC, stC, -, -, asC, slC⟩ := id C
  cases hD.symm.trans hD'
  obtain ⟨D2, kD, e1, e2, e3, e4, e5⟩ := id E
  cases hD.symm.trans e1
  obtain ⟨c2, k2, i1, i2, i3, -⟩ := Cond.instantiable_spec wi
  cases e2.symm.trans i1
  cases e3.symm.trans i2
  obtain ⟨kU, u1, u2⟩ := al.2.2 _ _ e3
  have hB : Blank ST x D P.U := ⟨hD, ⟨knV, fun q hq => by rw [hq] at obV; cases obV⟩, by rw [al.findClass]; exact e2, kU, u1, by rw [u2]; exact i3, by rw [u2]; exact e5 i3⟩
  have F1 : Found ST "value" "[B" fV P.U := ⟨SBG.found_only al ⟨cfV, kV, iV, gV⟩, stV⟩
  have F2 : Found ST "coder" "B" fC P.U := ⟨SBG.found_only al ⟨cfC, kC, iC, gC⟩, stC⟩
  have hA : Ch b A P.U := ⟨⟨K.1, State.isArrayOf_alike al K.2.1, K.2.2, by omega⟩, hty⟩
  have hS : StaticIs P.U ST "COMPACT_STRINGS" "Z" (.int z) := by
    obtain ⟨cfS, iS, kS, fS, st, cS, t1, t2, t3, t4, t5, t6, t7⟩ := S
    exact StaticIs.there (s := { Z with heap := P.U.heap }) ⟨cfS, iS, kS, fS, st, cS, t1, t2, t3, t4, t5, (fun q => by rw [q] at t6; cases t6), t7⟩ al rfl
  obtain ⟨v, B, X', ⟨⟨hv, E', V', q1, q2, q3, q4, q5, q6, q7, q8, q9, q10, q11⟩, hl, hc, hs⟩, st⟩ := New1.pays x D fV fC b A z (tab_of (moved hZ hw)) hfr hlo m meth c P g ig mk _ X hg hsize hdg hW hn ⟨r1, r2, rfl, hB, F1, F2, hA, hS, hz, l0, l2, hp⟩
  have al' : Z.vm.Alike B.U.vm := hZ.alike.trans X'.warmed.alike
  have hsz : E'.slots.size = D.slots.size := by
    obtain ⟨-, -, -, kB, w1, w2, w3⟩ := q1
    obtain ⟨kB', y1, y2⟩ := al'.2.2 _ _ e3
    rw [q2.2.1] at w1
    cases w1.symm.trans y1
    rw [w3, e5 i3, y2]
  refine ⟨v, B, X', ⟨_, ⟨hv, ?_, ⟨by omega, fun y cy hy hn' => q10 y cy (by simpa using hn') hy, fun y cy hy => ?_⟩, q11, ⟨E', _, q1.1, by rw [q2.2.1]; exact e2, by rw [q2.2.1]; exact e3, by rw [q2.1]; exact obV, fun _ => by rw [hsz]; exact e5 i3⟩,
    ⟨E', cfV, kV, iV, fV, q1.1, gV, stV, by rw [q2.1]; exact knV, by rw [q2.1]; exact obV, by rw [q2.2.1]; exact asV, q3⟩, ⟨E', cfC, kC, iC, fC, q1.1, gC, stC, by rw [q2.1]; exact knV, by rw [q2.1]; exact obV, by rw [q2.2.1]; exact asC, q4⟩,
    ⟨V', ⟨q5.1, State.isArrayOf_alike al'.symm q5.2.1, q5.2.2.1⟩, q6, by rw [← al'.findClass]; exact q7, q8, fun j hj => by have := q9 j hj; rwa [Nat.zero_add] at this⟩, fun O n d w F n1 n2 => ?_⟩, hl, hc, hs⟩, st⟩
  · intro y hy
    simp only [List.mem_cons, List.not_mem_nil, or_false] at hy
    rcases hy with rfl | rfl <;> rfl
  · by_cases q : y = x
    · subst q
      cases hD.symm.trans hy
      exact ⟨E', q1.1, q2.2.1, q2.1, hsz⟩
    · exact ⟨cy, q10 y cy q hy, rfl, rfl, rfl⟩
  · obtain ⟨D3, cf, k, i, f, g1, g2, g3, g4, g5, g6, g7⟩ := F
    cases hD.symm.trans g1
    simp only [RoadKit.slotOf, g2, gV, gC, Option.map_some, Option.getD_some] at n1 n2
    exact ⟨E', cf, k, i, f, q1.1, g2, g3, by rw [q2.1]; exact g4, by rw [q2.1]; exact g5, by rw [q2.2.1]; exact g6, by rw [q2.2.2 f.slot (by simp [n1, n2])]; exact g7⟩
end StrChars.Road
namespace StrChars.Road
open Jvm Sem ClassFile Op Lib Jvm.Stand Jvm.Free Jvm.Free.XT
/-- WHAT COMES BACK, the byte[] as a list of values -/
def QA (Z : State) (x : Addr) (zn : Int32) (cs : List Int32) (h : Heap) (v : Option Value) (h' : Heap) (L : List Loc) : Prop := v = none ∧ (∀ y ∈ L, y.base = x) ∧ RoadKit.Keep h h' [x] ∧ h'.size = h.size + 1 ∧ RoadKit.Exa Z h' x ST ∧ RoadKit.Fld Z h' x ST "value" "[B" (.ref h.size) ∧ RoadKit.Fld Z h' x ST "coder" "B" (.int 0) ∧
  (∃ kb, Z.vm.findClass "[B" = some kb ∧ RoadKit.Arv Z h' h.size kb .byte zn (cs.map fun c => .int (lo8 c)) (.int 0)) ∧
  ∀ (O n d : String) (w : Value), RoadKit.Fld Z h x O n d w → RoadKit.slotOf Z O n d ≠ RoadKit.slotOf Z ST "value" "[B" → RoadKit.slotOf Z O n d ≠ RoadKit.slotOf Z ST "coder" "B" → RoadKit.Fld Z h' x O n d w
/-- **new String(chars) AT A CALL, THE ARRAYS AS LISTS**: the char[] at b holds cs, not empty, no char above 255 -/
theorem backArv {p : Program} {l : Launch} {e : Env} {R : Room} {s : State} {args : Array Value} {below : List Frame} {len W : Nat} {Z : State} {a0 : Array Value} {h : Heap} (hZ : Z.Warmed39 s.vm) (hw : ∀ d ∈ words, d.before a0 Z = true) {kI : Nat} (wi : (Jvm.Cond.instantiable ST kI).before a0 Z = true)
    {x b : Addr} {k : ClassId} {zn z : Int32} {cs : List Int32} {dv v0 c0 : Value} (E : RoadKit.Exa Z h x ST) (V : RoadKit.Fld Z h x ST "value" "[B" v0) (C : RoadKit.Fld Z h x ST "coder" "B" c0) (K : RoadKit.Arv Z h b k .char zn (cs.map Value.int) dv) (S : RoadKit.Sta Z h ST "COMPACT_STRINGS" "Z" (.int z)) (hz : ¬ z = 0)
    (hlen : zn.toNatClampNeg = cs.length) (h0 : 0 < cs.length) (hbig : cs.length ≤ 536870912) (hall : ∀ c ∈ cs, ¬ 255 < c) (hfr : 4 ≤ R.frames) (hlo : W + 65 ≤ R.locals) :
    Back l R p e below s args New1.yN len W (fun P a => a = #[.ref x, .ref b] ∧ P.U.heap = h ∧ P.cells + 1 ≤ R.cells ∧ P.slots + cs.length ≤ R.slots)
      (fun P _ v B => ∃ L, QA Z x zn cs h v B.U.heap L ∧ B.locs = P.locs ++ L ∧ B.cells = P.cells + 1 ∧ B.slots = P.slots + cs.length) := by
  obtain ⟨A, K1, K2, K3, K4, K5, K6⟩ := K
  have e : A.slots.size = cs.length := K3.trans hlen
  have hat : ∀ (i : Nat) (hi : i < cs.length), A.slots[i]? = some (.int cs[i]) := fun i hi => by rw [K5 i (by omega)]; simp [List.getD_eq_getElem?_getD, hi]
  have hcv : ∀ (i : Nat) (hi : i < cs.length), cv A i = cs[i] := fun i hi => by unfold cv; rw [hat i hi]
  have hty : Typed .char A := fun i v hv => by
    have hi : i < A.slots.size := (Array.getElem?_eq_some_iff.mp hv).1
    have q := K5 i hi
    rw [hv] at q
    rw [Option.some.inj q]
    exact K6 i hi
  refine Back.mono (back hZ hw wi E V C K1 hty S hz (by omega) (by omega) (fun i hi => by rw [hcv i (by omega)]; exact hall _ (List.getElem_mem _)) hfr hlo) (fun P a hp => ⟨hp.1, hp.2.1, hp.2.2.1, by rw [e]; exact hp.2.2.2⟩) (fun P a v B hp hq => ?_)
  obtain ⟨L, ⟨q1, q2, q3, q4, q5, q6, q7, ⟨V', v1, v2, v3, v4, v5⟩, q9⟩, hl, hc, hs⟩ := hq
  refine ⟨L, ⟨q1, q2, q3, q4, q5, q6, q7, ⟨V'.cls, v3, V', v1, rfl, by rw [v4, e, hlen], K4, fun i hi => ?_, fun i hi => ?_⟩, q9⟩, hl, hc, by rw [hs, e]⟩
  · have hi' : i < cs.length := by omega
    rw [v5 i (by omega), hcv i hi']; simp [List.getD_eq_getElem?_getD, hi']
  · have hi' : i < cs.length := by omega
    simp only [List.getD_eq_getElem?_getD, List.getElem?_map, List.getElem?_eq_getElem hi', Option.map_some, Option.getD_some]
    exact fits_lo8 _
end StrChars.Road
namespace StrChars.Road
open Jvm Sem ClassFile Op Lib Jvm.Stand Jvm.Free Jvm.Free.XT
/-- WHAT COMES BACK, in the writer's own shape -/
def QV (Z : State) (x : Addr) (N : Int32) (bs : List Int32) (h : Heap) (n0 : Nat) (v : Option Value) (h' : Heap) (L : List Loc) : Prop := v = none ∧ RoadKit.Fr n0 L ∧ RoadKit.Keep h h' [x] ∧ RoadKit.Exa Z h' x ST ∧ RoadKit.Fld Z h' x ST "coder" "B" (.int 0) ∧
  ∃ (t : Addr) (kb : ClassId), n0 ≤ t ∧ h.size ≤ t ∧ ¬ t = x ∧ RoadKit.Fld Z h' x ST "value" "[B" (.ref t) ∧ RoadKit.Arv Z h' t kb .byte N (bs.map Value.int) (.int 0)
/-- **new String(chars) AT A CALL, FOR THE WRITER**: a char[] of n known ints, each 0 to 255 -/
theorem backV {p : Program} {l : Launch} {e : Env} {R : Room} {s : State} {args : Array Value} {below : List Frame} {len W : Nat} {Z : State} {a0 : Array Value} {h : Heap} (hZ : Z.Warmed39 s.vm) (hw : ∀ d ∈ words, d.before a0 Z = true) {kI : Nat} (wi : (Jvm.Cond.instantiable ST kI).before a0 Z = true)
    {x b : Addr} {kC : ClassId} {cs bs : List Int32} {d v0 c0 : Value} {z N : Int32} {n n0 : Nat} (hx0 : n0 ≤ x) (hh0 : n0 ≤ h.size) (E : RoadKit.Exa Z h x ST) (V : RoadKit.Fld Z h x ST "value" "[B" v0) (C : RoadKit.Fld Z h x ST "coder" "B" c0) (K : RoadKit.Arv Z h b kC .char N (cs.map Value.int) d) (S : RoadKit.Sta Z h ST "COMPACT_STRINGS" "Z" (.int z)) (hz : ¬ z = 0)
    (hn : cs.length = n) (hN : N = Int32.ofNat n) (l0 : 0 < n) (l2 : n ≤ 4000) (hp : ∀ c ∈ cs, ¬ c < 0 ∧ ¬ (255 : Int32) < c) (hb : bs = cs.map (fun c => c.toInt8.toInt32)) (hfr : 4 ≤ R.frames) (hlo : W + 65 ≤ R.locals) :
    Back l R p e below s args (⟨"java/lang/String", "<init>", "([C)V"⟩ : MethodName) len W (fun P a => a = #[.ref x, .ref b] ∧ P.U.heap = h ∧ P.cells + 1 ≤ R.cells ∧ P.slots + n ≤ R.slots)
      (fun P _ v B => ∃ L, QV Z x N bs h n0 v B.U.heap L ∧ B.locs = P.locs ++ L ∧ B.cells = P.cells + 1 ∧ B.slots = P.slots + n) := by
  subst hn hN hb
  refine Back.mono (backArv hZ hw wi E V C K S hz (n32 (by omega)) l0 (by omega) (fun c hc => (hp c hc).2) hfr hlo) (fun P a hp => hp) (fun P a v B hp hq => ?_)
  obtain ⟨L, ⟨q1, q2, q3, q4, q5, q6, q7, ⟨kb, v1, v2⟩, q9⟩, hl, hc, hs⟩ := hq
  exact ⟨L, ⟨q1, fun y hy => by rw [q2 y hy]; exact hx0, q3, q5, q7, h.size, kb, hh0, Nat.le_refl _, Nat.ne_of_gt E.lt, q6, by rw [List.map_map]; exact v2⟩, hl, hc, hs⟩
end StrChars.Road
namespace StrChars
open Jvm Sem ClassFile Op Lib Jvm.Stand Jvm.Free.XT Jvm.Free.ALB Jvm.Free.JM Jvm.Free
open Jvm.Lib.Cold (StaticIs)
def hi8 (x : Int32) : Int32 := lo8 (x >>> ((8 : Int32) &&& 31))
/-- what StringUTF16.getChar makes of two bytes -/
def pairCh (u v : Int32) : Int32 := (((u &&& 255) <<< ((0 : Int32) &&& 31)) ||| ((v &&& 255) <<< ((8 : Int32) &&& 31))).toUInt32.toUInt16.toUInt32.toInt32
theorem shr0 (c : Int32) : c >>> ((0 : Int32) &&& 31) = c := by
  have e : ((0 : Int32) &&& 31) = 0 := by decide
  rw [e]
  apply Int32.toBitVec_inj.mp
  rw [Int32.toBitVec_shiftRight]
  have e1 : ((0 : Int32).toBitVec.smod 32) = 0#32 := by decide
  rw [e1, BitVec.sshiftRight_eq']
  exact BitVec.sshiftRight_zero
theorem lo8_and (x : Int32) : (lo8 x &&& 255).toBitVec.toNat = x.toBitVec.toNat % 256 := by
  have h : (lo8 x).toBitVec = (x.toBitVec.signExtend 8).signExtend 32 := by rw [lo8, Int8.toBitVec_toInt32, Int32.toBitVec_toInt8]
  rw [Int32.toBitVec_and, BitVec.toNat_and, h]
  have e : ((x.toBitVec.signExtend 8).signExtend 32).toNat % 256 = x.toBitVec.toNat % 256 := by
    rw [BitVec.toNat_signExtend]
    have hlt := x.toBitVec.isLt
    simp only [BitVec.toNat_setWidth, BitVec.toNat_signExtend]
    split <;> split <;> omega
  rw [← e]
  exact Nat.and_two_pow_sub_one_eq_mod _ 8
theorem pair_says {c : Int32} (h0 : ¬ c < 0) (h1 : ¬ 65535 < c) : pairCh (lo8 c) (hi8 c) = c := by
  rw [Int32.lt_iff_toInt_lt] at h0 h1
  have e0 : (0 : Int32).toInt = 0 := rfl
  have e1 : (65535 : Int32).toInt = 65535 := rfl
  have hc : c.toInt = c.toBitVec.toNat := by
    have := c.toBitVec.isLt
    have e : c.toInt = c.toBitVec.toInt := rfl
    rw [e] at h0 h1
    rw [e]
    rw [BitVec.toInt_eq_toNat_cond] at h0 h1 ⊢
    split at h0 <;> split <;> omega
  have hn : c.toBitVec.toNat < 65536 := by omega
  have a1 := lo8_and c
  have a2 : (hi8 c &&& 255).toBitVec.toNat = c.toBitVec.toNat / 256 := by
    rw [hi8, lo8_and]
    have e : ((8 : Int32) &&& 31) = 8 := by decide
    rw [e, Int32.toBitVec_shiftRight]
    have e2 : ((8 : Int32).toBitVec.smod 32) = 8#32 := by decide
    rw [e2, BitVec.sshiftRight_eq', BitVec.toNat_sshiftRight_of_msb_false (by rw [BitVec.msb_eq_false_iff_two_mul_lt]; omega)]
    show c.toBitVec.toNat >>> 8 % 256 = _
    rw [Nat.shiftRight_eq_div_pow]
    omega
  unfold pairCh
  apply Int32.toBitVec_inj.mp
  apply BitVec.eq_of_toNat_eq
  have f0 : ((0 : Int32) &&& 31) = 0 := by decide
  have f8 : ((8 : Int32) &&& 31) = 8 := by decide
  rw [f0, f8]
  have g : (((lo8 c &&& 255) <<< (0 : Int32)) ||| ((hi8 c &&& 255) <<< (8 : Int32))).toBitVec.toNat = c.toBitVec.toNat := by
    rw [Int32.toBitVec_or, Int32.toBitVec_shiftLeft, Int32.toBitVec_shiftLeft]
    have s0 : ((0 : Int32).toBitVec.smod 32) = 0#32 := by decide
    have s8 : ((8 : Int32).toBitVec.smod 32) = 8#32 := by decide
    rw [s0, s8, BitVec.toNat_or]
    simp only [BitVec.shiftLeft_eq', BitVec.toNat_shiftLeft, a1, a2]
    show (c.toBitVec.toNat % 256) <<< 0 % 2 ^ 32 ||| (c.toBitVec.toNat / 256) <<< 8 % 2 ^ 32 = _
    rw [Nat.shiftLeft_zero, Nat.mod_eq_of_lt (show c.toBitVec.toNat % 256 < 2 ^ 32 by omega), Nat.mod_eq_of_lt (show (c.toBitVec.toNat / 256) <<< 8 < 2 ^ 32 by rw [Nat.shiftLeft_eq]; omega), Nat.or_comm, ← Nat.shiftLeft_add_eq_or_of_lt (by omega), Nat.shiftLeft_eq]
    omega
  show BitVec.toNat (((((lo8 c &&& 255) <<< (0 : Int32)) ||| ((hi8 c &&& 255) <<< (8 : Int32))).toBitVec.setWidth 16).setWidth 32) = _
  rw [BitVec.toNat_setWidth, BitVec.toNat_setWidth, g]
  omega
end StrChars
namespace StrChars
open Jvm Sem ClassFile Op Lib Jvm.Stand Jvm.Free.XT Jvm.Free.ALB Jvm.Free.JM Jvm.Free
open Jvm.Lib.Cold (StaticIs)
theorem shr1 {n : Nat} (h : 2 * n < 2 ^ 31) : Int32.ofNat (2 * n) >>> ((1 : Int32) &&& 31) = Int32.ofNat n := by
  have e : ((1 : Int32) &&& 31) = 1 := by decide
  rw [e]
  apply Int32.toBitVec_inj.mp
  rw [Int32.toBitVec_shiftRight]
  have e1 : ((1 : Int32).toBitVec.smod 32) = 1#32 := by decide
  have hm : (BitVec.ofNat 32 (2 * n)).toNat = 2 * n := by rw [BitVec.toNat_ofNat, Nat.mod_eq_of_lt (by omega)]
  rw [e1, BitVec.sshiftRight_eq']
  apply BitVec.eq_of_toNat_eq
  show ((BitVec.ofNat 32 (2 * n)).sshiftRight 1).toNat = (BitVec.ofNat 32 n).toNat
  rw [BitVec.toNat_sshiftRight_of_msb_false (by rw [BitVec.msb_eq_false_iff_two_mul_lt, hm]; omega), hm, BitVec.toNat_ofNat, Nat.shiftRight_eq_div_pow]
  omega
/-- charAt's cast of a byte read back -/
def chr8 (u : Int32) : Int32 := (u &&& 255).toUInt32.toUInt16.toUInt32.toInt32
theorem chr8_lo8 {c : Int32} (h0 : ¬ c < 0) (h1 : ¬ 255 < c) : chr8 (lo8 c) = c := by
  have t : ∀ k : Fin 256, (Int32.ofNat k.val).toUInt32.toUInt16.toUInt32.toInt32 = Int32.ofNat k.val := by decide +kernel
  unfold chr8
  rw [lo8_mask h0 h1]
  rw [Int32.lt_iff_toInt_lt] at h0 h1
  have e0 : (0 : Int32).toInt = 0 := rfl
  have e1 : (255 : Int32).toInt = 255 := rfl
  obtain ⟨k, hk⟩ : ∃ k : Nat, c.toInt = k := ⟨c.toInt.toNat, by omega⟩
  have hx : c = Int32.ofNat k := Int32.toInt_inj.mp (by rw [hk, Int32.toInt_ofNat_small (by omega)])
  rw [hx]
  exact t ⟨k, by omega⟩
theorem narrow_ch {c : Int32} (h0 : ¬ c < 0) (h1 : ¬ 65535 < c) : narrow .char (.int c) = .int c := by
  have q : narrow .char (.int (pairCh (lo8 c) (hi8 c))) = .int (pairCh (lo8 c) (hi8 c)) := narrow_c _
  rwa [pair_says h0 h1] at q
/-- the array's cell V codes the n chars f 0 .. f (n - 1) by the coder cd, as the JDK does: coder 1 just where some char is above 255 -/
def Cod (cd : Int32) (n : Nat) (f : Nat → Int32) (V : Cell) : Prop := (cd = 0 ∧ V.slots.size = n ∧ ∀ j, j < n → V.slots[j]? = some (.int (lo8 (f j))) ∧ ¬ 255 < f j) ∨ (cd = 1 ∧ V.slots.size = 2 * n ∧ (∀ j, j < n → V.slots[2 * j]? = some (.int (lo8 (f j))) ∧ V.slots[2 * j + 1]? = some (.int (hi8 (f j)))) ∧ ∃ j, j < n ∧ 255 < f j)
theorem Cod.cd {cd : Int32} {n : Nat} {f : Nat → Int32} {V : Cell} (h : Cod cd n f V) : cd = 0 ∨ cd = 1 := h.imp (fun q => q.1) fun q => q.1
theorem Cod.len {cd : Int32} {n : Nat} {f : Nat → Int32} {V : Cell} (h : Cod cd n f V) (hs : V.slots.size < 2 ^ 31) : Int32.ofNat V.slots.size >>> (cd &&& 31) = Int32.ofNat n := by
  rcases h with ⟨rfl, h, -⟩ | ⟨rfl, h, -⟩
  · rw [shr0, h]
  · rw [h, shr1 (by omega)]
/-- **x is a String of the n chars f 0 .. f (n - 1)**, Latin-1 or UTF-16; its array at t has the cell V -/
def Txt (x t : Addr) (V : Cell) (cd : Int32) (n : Nat) (f : Nat → Int32) (U : State) : Prop := Exact "java/lang/String" x U ∧ Has x "java/lang/String" "value" "[B" (.ref t) U ∧ Has x "java/lang/String" "coder" "B" (.int cd) U ∧ XT.Arr .byte t V U ∧ Cod cd n f V ∧ ∀ j, j < n → ¬ f j < 0 ∧ ¬ 65535 < f j
theorem Txt.mv {x t : Addr} {V : Cell} {cd : Int32} {n : Nat} {f : Nat → Int32} {U U' : State} (h : Txt x t V cd n f U) (hal : U.vm.Alike U'.vm) (hh : U'.heap = U.heap) : Txt x t V cd n f U' := ⟨h.1.mv hal hh, h.2.1.mv hal hh, h.2.2.1.mv hal hh, h.2.2.2.1.mv hal hh, h.2.2.2.2⟩
namespace Cdr
def yN : MethodName := ⟨"java/lang/String", "coder", "()B"⟩
abbrev yB : ByteArray := jdk_42_method_152_code
theorem d0 : decode yB 0 = .ok (.getstatic 38, 3) := by decide +kernel
theorem d3 : decode yB 3 = .ok (.ifCond (.eq) 10, 3) := by decide +kernel
theorem d6 : decode yB 6 = .ok (.aload_n 0, 1) := by decide +kernel
theorem d7 : decode yB 7 = .ok (.getfield 15, 3) := by decide +kernel
theorem d10 : decode yB 10 = .ok (.goto 4, 3) := by decide +kernel
theorem d14 : decode yB 14 = .ok (.ireturn, 1) := by decide +kernel
def site : List Cond := [.fieldLink "java/lang/String" 38 "java/lang/String" "COMPACT_STRINGS" "Z", .fieldLink "java/lang/String" 15 "java/lang/String" "coder" "B"]
def tab : Cond := tabOf yN yB 1 (some .byte) site
def P (x : Addr) (cd z : Int32) (args : Array Value) (s : State) : Prop := args = #[.ref x] ∧ Has x "java/lang/String" "coder" "B" (.int cd) s ∧ (cd = 0 ∨ cd = 1) ∧ StaticIs s "java/lang/String" "COMPACT_STRINGS" "Z" (.int z) ∧ ¬ z = 0
def E (cd : Int32) (r : Option Value) (s u : State) : Prop := XT.PureE (some (.int cd)) r s u
theorem law (l : Launch) (x : Addr) (cd z : Int32) : Law l yN 1 0 0 0 yB 1 (some .byte) site (P x cd z) (E cd) [] 0 0 := by
  refine Law.of_walk (plainFor_of_name (by decide +kernel)) (by decide +kernel) (by decide +kernel) (by decide) (fun _ _ h => by rw [h.1]; rfl) (fun _ U U' hal hh h => ⟨h.1, h.2.1.mv hal hh, h.2.2.1, h.2.2.2.1.there hal hh, h.2.2.2.2⟩) (fun r U U' V V' h1 hal h2 h => XT.PureE.mv r U U' V V' h1 hal h2 h) ?_
  intro p e s m args below meth c s₁ X0 hexec hbytes hml hret hlk hnm hown hh0 W hP
  obtain ⟨rfl, hx, hc, s1, hz⟩ := hP
  have c1 : Steps p.tables e below (s₁.setTop (entryFrame m #[.ref x] 1)) (s₁.setTop (mkF m 0 #[.val (.ref x)] [])) := entry rfl
  obtain ⟨T2, X2, q2, st2⟩ := X0.sget hexec hown (wk W (.fieldLink "java/lang/String" 38 "java/lang/String" "COMPACT_STRINGS" "Z")) s1 (fun _ _ h => by rw [hh0]; exact h) (g := (mkF m 0 #[.val (.ref x)] [])) rfl (hb hbytes d0)
  have hh2 := q2.trans hh0
  have c3 : Steps p.tables e below (s₁.setTop (entryFrame m #[.ref x] 1)) (T2.setTop (mkF m 7 #[.val (.ref x)] [.ref x])) := (c1.trans (st2 _ (Steps.refl _))).trans (by
    refine XS.ifNo X2.here hexec rfl (hb hbytes d3) rfl (i0_eq_f hz) ?_
    refine XS.aloadN X2.here hexec rfl (hb hbytes d6) rfl rfl ?_
    exact Steps.refl _)
  obtain ⟨T4, X4, q4, st4⟩ := X2.hget hexec hown (wk W (.fieldLink "java/lang/String" 15 "java/lang/String" "coder" "B")) (hx.mv X2.warmed.alike hh2) (g := (mkF m 7 #[.val (.ref x)] [.ref x])) rfl (rest := []) rfl (hb hbytes d7)
  have c5 : Steps p.tables e below (s₁.setTop (entryFrame m #[.ref x] 1)) (T4.setTop (mkF m 14 #[.val (.ref x)] [.int cd])) := (c3.trans (st4 _ (Steps.refl _))).trans (by
    refine XS.goto X4.here hexec rfl (pc0 := 10) rfl (hb hbytes d10) (by decide) rfl ?_
    exact Steps.refl _)
  exact ⟨T4, some (.int cd), _, _, _, X4, rfl, rfl, rfl, (fun h => by cases h), ⟨rfl, q4.trans hh2⟩, fun fs hl => c5.trans (X4.ireturnOut hexec hret (by rcases hc with rfl | rfl <;> rfl) (Or.inr (Or.inr (Or.inl rfl))) (hb hbytes d14) hl)⟩
end Cdr
namespace Len
def yN : MethodName := ⟨"java/lang/String", "length", "()I"⟩
abbrev yB : ByteArray := jdk_42_method_54_code
theorem d0 : decode yB 0 = .ok (.aload_n 0, 1) := by decide +kernel
theorem d1 : decode yB 1 = .ok (.getfield 9, 3) := by decide +kernel
theorem d4 : decode yB 4 = .ok (.arraylength, 1) := by decide +kernel
theorem d5 : decode yB 5 = .ok (.aload_n 0, 1) := by decide +kernel
theorem d6 : decode yB 6 = .ok (.invokevirtual 335, 3) := by decide +kernel
theorem d9 : decode yB 9 = .ok (.ishr, 1) := by decide +kernel
theorem d10 : decode yB 10 = .ok (.ireturn, 1) := by decide +kernel
def site : List Cond := [.fieldLink "java/lang/String" 9 "java/lang/String" "value" "[B", Cdr.tab] ++ virtW "java/lang/String" 335 "java/lang/String" Cdr.yN Cdr.yN
def tab : Cond := tabOf yN yB 1 (some .int) site
def P (x t : Addr) (V : Cell) (cd : Int32) (n : Nat) (f : Nat → Int32) (z : Int32) (args : Array Value) (s : State) : Prop := args = #[.ref x] ∧ Txt x t V cd n f s ∧ StaticIs s "java/lang/String" "COMPACT_STRINGS" "Z" (.int z) ∧ ¬ z = 0
def E (n : Nat) (r : Option Value) (s u : State) : Prop := XT.PureE (some (.int (Int32.ofNat n))) r s u
/-- length() of a String of n chars, in either coding -/
theorem law (l : Launch) (x t : Addr) (V : Cell) (cd : Int32) (n : Nat) (f : Nat → Int32) (z : Int32) : Law l yN 1 0 1 13 yB 1 (some .int) site (P x t V cd n f z) (E n) [] 0 0 := by
  refine Law.of_walk (plainFor_of_name (by decide +kernel)) (by decide +kernel) (by decide +kernel) (by decide) (fun _ _ h => by rw [h.1]; rfl) (fun _ U U' hal hh h => ⟨h.1, h.2.1.mv hal hh, h.2.2.1.there hal hh, h.2.2.2⟩) (fun r U U' V V' h1 hal h2 h => XT.PureE.mv r U U' V V' h1 hal h2 h) ?_
  intro p e s m args below meth c s₁ X0 hexec hbytes hml hret hlk hnm hown hh0 W hP
  obtain ⟨rfl, hx, s1, hz⟩ := hP
  have v31 := hx.2.2.2.1.2.2.2
  have c1 : Steps p.tables e below (s₁.setTop (entryFrame m #[.ref x] 1)) (s₁.setTop (mkF m 1 #[.val (.ref x)] [.ref x])) := Steps.trans (entry rfl) (by
    show Steps p.tables e below (s₁.setTop (mkF m 0 #[.val (.ref x)] [])) _
    refine XS.aloadN X0.here hexec rfl (hb hbytes d0) rfl rfl ?_
    exact Steps.refl _)
  obtain ⟨T2, X2, q2, st2⟩ := X0.hget hexec hown (wk W (.fieldLink "java/lang/String" 9 "java/lang/String" "value" "[B")) (hx.mv X0.warmed.alike hh0).2.1 (g := (mkF m 1 #[.val (.ref x)] [.ref x])) rfl (rest := []) rfl (hb hbytes d1)
  have hh2 := q2.trans hh0
  have hx2 := hx.mv X2.warmed.alike hh2
  have c3 : Steps p.tables e below (s₁.setTop (entryFrame m #[.ref x] 1)) (T2.setTop (mkF m 6 #[.val (.ref x)] [.ref x, .int (Int32.ofNat V.slots.size)])) := (c1.trans (st2 _ (Steps.refl _))).trans (by
    refine X2.alen hexec hx2.2.2.2.1 rfl rfl (hb hbytes d4) ?_
    refine XS.aloadN X2.here hexec rfl (hb hbytes d5) rfl rfl ?_
    exact Steps.refl _)
  obtain ⟨v4, T4, X4, E4, g4⟩ := X2.callV hexec (Cdr.law l x cd z) hown (wks W (virtW "java/lang/String" 335 "java/lang/String" Cdr.yN Cdr.yN)) rfl (by decide) (wk W Cdr.tab) (W := 1) (Nat.le_of_ble_eq_true rfl) (Nat.le_of_ble_eq_true rfl) (Nat.le_refl _) (Nat.le_refl _) (hx2.1.fc X2.warmed.alike) hx2.1.is (g := (mkF m 6 #[.val (.ref x)] [.ref x, .int (Int32.ofNat V.slots.size)])) rfl (by rw [hml]; rfl) c3 (argsL := []) (rest := [.int (Int32.ofNat V.slots.size)]) rfl rfl (by show 2 * 0 + (1 + 0) ≤ _; decide) (hb hbytes d6) (⟨rfl, hx2.2.2.1, hx.2.2.2.2.1.cd, s1.there X2.warmed.alike hh2, hz⟩)
  obtain ⟨rfl, q4⟩ := E4
  have c5 : Steps p.tables e below (s₁.setTop (entryFrame m #[.ref x] 1)) (T4.setTop (mkF m 10 #[.val (.ref x)] [.int (Int32.ofNat V.slots.size >>> (cd &&& 31))])) := Steps.trans g4 (by
    refine ishr X4.here hexec rfl (hb hbytes d9) rfl ?_
    exact Steps.refl _)
  rw [hx.2.2.2.2.1.len v31] at c5
  exact ⟨T4, some (.int (Int32.ofNat n)), _, _, _, X4, rfl, rfl, rfl, (fun h => by cases h), ⟨rfl, q4.trans hh2⟩, fun fs hl => c5.trans (X4.ireturnOut hexec hret rfl (Or.inl rfl) (hb hbytes d10) hl)⟩
theorem pays {l : Launch} {R : Room} {p : Program} {e : Env} {below : List Frame} {s : State} {sargs : Array Value} {len W : Nat} (x t : Addr) (V : Cell) (cd : Int32) (n : Nat) (f : Nat → Int32) (z : Int32) (htab : tab.before sargs s = true) (hfr : 2 ≤ R.frames) (hlo : W + 25 ≤ R.locals) :
    Back l R p e below s sargs yN len W (fun A₁ a₁ => A₁.cells + 0 ≤ R.cells ∧ A₁.slots + 0 ≤ R.slots ∧ P x t V cd n f z a₁ A₁.U) (fun A₁ _ v₁ B₁ => E n v₁ A₁.U B₁.U ∧ B₁.locs = A₁.locs ++ [] ∧ B₁.cells = A₁.cells + 0 ∧ B₁.slots = A₁.slots + 0) :=
  (law l x t V cd n f z).pays htab hfr (by omega)
end Len
namespace IsL
def yN : MethodName := ⟨"java/lang/String", "isLatin1", "()Z"⟩
abbrev yB : ByteArray := jdk_42_method_154_code
theorem d0 : decode yB 0 = .ok (.getstatic 38, 3) := by decide +kernel
theorem d3 : decode yB 3 = .ok (.ifCond (.eq) 14, 3) := by decide +kernel
theorem d6 : decode yB 6 = .ok (.aload_n 0, 1) := by decide +kernel
theorem d7 : decode yB 7 = .ok (.getfield 15, 3) := by decide +kernel
theorem d10 : decode yB 10 = .ok (.ifCond (.ne) 7, 3) := by decide +kernel
theorem d13 : decode yB 13 = .ok (.iconst 1, 1) := by decide +kernel
theorem d14 : decode yB 14 = .ok (.goto 4, 3) := by decide +kernel
theorem d17 : decode yB 17 = .ok (.iconst 0, 1) := by decide +kernel
theorem d18 : decode yB 18 = .ok (.ireturn, 1) := by decide +kernel
def site : List Cond := [.fieldLink "java/lang/String" 38 "java/lang/String" "COMPACT_STRINGS" "Z", .fieldLink "java/lang/String" 15 "java/lang/String" "coder" "B"]
def tab : Cond := tabOf yN yB 1 (some .boolean) site
def P (x : Addr) (cd z : Int32) (args : Array Value) (s : State) : Prop := args = #[.ref x] ∧ Has x "java/lang/String" "coder" "B" (.int cd) s ∧ (cd = 0 ∨ cd = 1) ∧ StaticIs s "java/lang/String" "COMPACT_STRINGS" "Z" (.int z) ∧ ¬ z = 0
def E (cd : Int32) (r : Option Value) (s u : State) : Prop := XT.PureE (some (.int (1 - cd))) r s u
theorem law (l : Launch) (x : Addr) (cd z : Int32) : Law l yN 1 0 0 0 yB 1 (some .boolean) site (P x cd z) (E cd) [] 0 0 := by
  refine Law.of_walk (plainFor_of_name (by decide +kernel)) (by decide +kernel) (by decide +kernel) (by decide) (fun _ _ h => by rw [h.1]; rfl) (fun _ U U' hal hh h => ⟨h.1, h.2.1.mv hal hh, h.2.2.1, h.2.2.2.1.there hal hh, h.2.2.2.2⟩) (fun r U U' V V' h1 hal h2 h => XT.PureE.mv r U U' V V' h1 hal h2 h) ?_
  intro p e s m args below meth c s₁ X0 hexec hbytes hml hret hlk hnm hown hh0 W hP
  obtain ⟨rfl, hx, hc, s1, hz⟩ := hP
  have c1 : Steps p.tables e below (s₁.setTop (entryFrame m #[.ref x] 1)) (s₁.setTop (mkF m 0 #[.val (.ref x)] [])) := entry rfl
  obtain ⟨T2, X2, q2, st2⟩ := X0.sget hexec hown (wk W (.fieldLink "java/lang/String" 38 "java/lang/String" "COMPACT_STRINGS" "Z")) s1 (fun _ _ h => by rw [hh0]; exact h) (g := (mkF m 0 #[.val (.ref x)] [])) rfl (hb hbytes d0)
  have hh2 := q2.trans hh0
  have c3 : Steps p.tables e below (s₁.setTop (entryFrame m #[.ref x] 1)) (T2.setTop (mkF m 7 #[.val (.ref x)] [.ref x])) := (c1.trans (st2 _ (Steps.refl _))).trans (by
    refine XS.ifNo X2.here hexec rfl (hb hbytes d3) rfl (i0_eq_f hz) ?_
    refine XS.aloadN X2.here hexec rfl (hb hbytes d6) rfl rfl ?_
    exact Steps.refl _)
  obtain ⟨T4, X4, q4, st4⟩ := X2.hget hexec hown (wk W (.fieldLink "java/lang/String" 15 "java/lang/String" "coder" "B")) (hx.mv X2.warmed.alike hh2) (g := (mkF m 7 #[.val (.ref x)] [.ref x])) rfl (rest := []) rfl (hb hbytes d7)
  have c5 : Steps p.tables e below (s₁.setTop (entryFrame m #[.ref x] 1)) (T4.setTop (mkF m 10 #[.val (.ref x)] [.int cd])) := c3.trans (st4 _ (Steps.refl _))
  have c6 : Steps p.tables e below (s₁.setTop (entryFrame m #[.ref x] 1)) (T4.setTop (mkF m 18 #[.val (.ref x)] [.int (1 - cd)])) := by
    rcases hc with rfl | rfl
    · exact c5.trans (by
        refine XS.ifNo X4.here hexec rfl (hb hbytes d10) rfl (i0_ne_f rfl) ?_
        refine iconstV X4.here hexec rfl 1 (hb hbytes d13) (by decide) ?_
        refine XS.goto X4.here hexec rfl (pc0 := 14) rfl (hb hbytes d14) (by decide) rfl ?_
        exact Steps.refl _)
    · exact c5.trans (by
        refine XS.ifYes X4.here hexec rfl (pc0 := 10) rfl (hb hbytes d10) rfl (i0_ne_t (by decide)) (by decide) rfl ?_
        refine iconstV X4.here hexec rfl 0 (hb hbytes d17) (by decide) ?_
        exact Steps.refl _)
  exact ⟨T4, some (.int (1 - cd)), _, _, _, X4, rfl, rfl, rfl, (fun h => by cases h), ⟨rfl, q4.trans hh2⟩, fun fs hl => c6.trans (X4.ireturnOut hexec hret (by rcases hc with rfl | rfl <;> rfl) (Or.inr (Or.inl rfl)) (hb hbytes d18) hl)⟩
end IsL
namespace LChA
def yN : MethodName := ⟨"java/lang/StringLatin1", "charAt", "([BI)C"⟩
abbrev yB : ByteArray := jdk_43_method_2_code
theorem d0 : decode yB 0 = .ok (.iload_n 1, 1) := by decide +kernel
theorem d1 : decode yB 1 = .ok (.aload_n 0, 1) := by decide +kernel
theorem d2 : decode yB 2 = .ok (.arraylength, 1) := by decide +kernel
theorem d3 : decode yB 3 = .ok (.invokestatic 9, 3) := by decide +kernel
theorem d6 : decode yB 6 = .ok (.aload_n 0, 1) := by decide +kernel
theorem d7 : decode yB 7 = .ok (.iload_n 1, 1) := by decide +kernel
theorem d8 : decode yB 8 = .ok (.baload, 1) := by decide +kernel
theorem d9 : decode yB 9 = .ok (.sipush 255, 3) := by decide +kernel
theorem d12 : decode yB 12 = .ok (.iand, 1) := by decide +kernel
theorem d13 : decode yB 13 = .ok (.i2c, 1) := by decide +kernel
theorem d14 : decode yB 14 = .ok (.ireturn, 1) := by decide +kernel
def site : List Cond := [JO.Str_checkIndex.tab] ++ staticW "java/lang/StringLatin1" 9 JO.Str_checkIndex.yN
def tab : Cond := tabOf yN yB 2 (some .char) site
def P (t : Addr) (V : Cell) (i : Nat) (u : Int32) (fm : Value) (args : Array Value) (s : State) : Prop := args = #[.ref t, .int (Int32.ofNat i)] ∧ XT.Arr .byte t V s ∧ V.slots[i]? = some (.int u) ∧ (StaticIs s "jdk/internal/util/Preconditions" "SIOOBE_FORMATTER" "Ljava/util/function/BiFunction;" fm ∧ fm.isRef = true)
def E (u : Int32) (r : Option Value) (s w : State) : Prop := XT.PureE (some (.int (chr8 u))) r s w
theorem law (l : Launch) (t : Addr) (V : Cell) (i : Nat) (u : Int32) (fm : Value) : Law l yN 2 2 2 27 yB 2 (some .char) site (P t V i u fm) (E u) [] 0 0 := by
  refine Law.of_walk (plainFor_of_name (by decide +kernel)) (by decide +kernel) (by decide +kernel) (by decide) (fun _ _ h => by rw [h.1]; rfl) (fun _ U U' hal hh h => ⟨h.1, h.2.1.mv hal hh, h.2.2.1, h.2.2.2.1.there hal hh, h.2.2.2.2⟩) (fun r U U' V V' h1 hal h2 h => XT.PureE.mv r U U' V V' h1 hal h2 h) ?_
  intro p e s m args below meth c s₁ X0 hexec hbytes hml hret hlk hnm hown hh0 W hP
  obtain ⟨rfl, hV, hu, s1, rf⟩ := hP
  have v31 := hV.2.2.2
  have hi : i < V.slots.size := (Array.getElem?_eq_some_iff.mp hu).1
  have c1 : Steps p.tables e below (s₁.setTop (entryFrame m #[.ref t, .int (Int32.ofNat i)] 2)) (s₁.setTop (mkF m 0 #[.val (.ref t), .val (.int (Int32.ofNat i))] [])) := entry rfl
  have c2 : Steps p.tables e below (s₁.setTop (entryFrame m #[.ref t, .int (Int32.ofNat i)] 2)) (s₁.setTop (mkF m 3 #[.val (.ref t), .val (.int (Int32.ofNat i))] [.int (Int32.ofNat V.slots.size), .int (Int32.ofNat i)])) := c1.trans (by
    refine XS.iloadN X0.here hexec rfl (hb hbytes d0) rfl ?_
    refine XS.aloadN X0.here hexec rfl (hb hbytes d1) rfl rfl ?_
    refine X0.alen hexec (hV.mv X0.warmed.alike hh0) rfl rfl (hb hbytes d2) ?_
    exact Steps.refl _)
  obtain ⟨v3, T3, X3, E3, g3⟩ := X0.callS hexec (JO.Str_checkIndex.law l (Int32.ofNat i) (Int32.ofNat V.slots.size) fm) hown (wks W (staticW "java/lang/StringLatin1" 9 JO.Str_checkIndex.yN)) (wk W JO.Str_checkIndex.tab) (W := 0) (Nat.le_of_ble_eq_true rfl) (Nat.le_of_ble_eq_true rfl) (Nat.le_refl _) (Nat.le_refl _) (g := (mkF m 3 #[.val (.ref t), .val (.int (Int32.ofNat i))] [.int (Int32.ofNat V.slots.size), .int (Int32.ofNat i)])) rfl (by rw [hml]; rfl) c2 (argsL := [.int (Int32.ofNat i), .int (Int32.ofNat V.slots.size)]) (rest := []) rfl rfl (by show 2 * 0 + 0 ≤ _; decide) (hb hbytes d3) (⟨rfl, rf, s1.there X0.warmed.alike hh0, Int32.ofNat_not_neg (by omega), lt32 v31 hi⟩)
  obtain ⟨rfl, q3⟩ := E3
  have hh3 := q3.trans hh0
  have c4 : Steps p.tables e below (s₁.setTop (entryFrame m #[.ref t, .int (Int32.ofNat i)] 2)) (T3.setTop (mkF m 14 #[.val (.ref t), .val (.int (Int32.ofNat i))] [.int (chr8 u)])) := Steps.trans g3 (by
    refine XS.aloadN X3.here hexec rfl (hb hbytes d6) rfl rfl ?_
    refine XS.iloadN X3.here hexec rfl (hb hbytes d7) rfl ?_
    refine X3.aget hexec (hV.mv X3.warmed.alike hh3) rfl hu rfl rfl (hb hbytes d8) ?_
    refine sipushV X3.here hexec rfl 255 (hb hbytes d9) (by decide) ?_
    refine XS.iand X3.here hexec rfl (hb hbytes d12) rfl ?_
    refine i2c X3.here hexec rfl (hb hbytes d13) rfl ?_
    exact Steps.refl _)
  exact ⟨T3, some (.int (chr8 u)), _, _, _, X3, rfl, rfl, rfl, (fun h => by cases h), ⟨rfl, hh3⟩, fun fs hl => c4.trans (X3.ireturnOut hexec hret (narrow_c _) (Or.inr (Or.inr (Or.inr (Or.inl rfl)))) (hb hbytes d14) hl)⟩
end LChA
end StrChars
namespace StrChars.Road
open Jvm Sem ClassFile Op Lib Jvm.Stand Jvm.Free Jvm.Free.XT
open Jvm.Lib.Cold (StaticIs)
theorem consq {a : Array Value} {s : State} {c : Jvm.Cond} {L : List Jvm.Cond} (h0 : c.before a s = true) (h : ∀ w ∈ L, w.before a s = true) : ∀ w ∈ c :: L, w.before a s = true := fun w hw => (List.mem_cons.mp hw).elim (fun e => e ▸ h0) (h w)
/-- the words of String.length(), either coding -/
abbrev wordsLen : List Jvm.Cond := [.code Len.yN Len.yB 1 (some .int), .initialized ST, .fieldLink ST 9 ST "value" "[B", .fieldLink ST 38 ST "COMPACT_STRINGS" "Z", .fieldLink ST 15 ST "coder" "B", .code Cdr.yN Cdr.yB 1 (some .byte), .methodLink ST 335 Cdr.yN, .declares Cdr.yN, .selects ST Cdr.yN Cdr.yN, .instanceMethod Cdr.yN]
theorem tabLen_of {a : Array Value} {s : State} (h : ∀ w ∈ wordsLen, w.before a s = true) : Len.tab.before a s = true := by
  have hc : Cdr.tab.before a s = true := unparts (wk h (.code Cdr.yN Cdr.yB 1 (some .byte))) (wks h (.initialized Cdr.yN.cls :: Cdr.site))
  have q := consq hc h
  exact unparts (wk q (.code Len.yN Len.yB 1 (some .int))) (wks q (.initialized Len.yN.cls :: Len.site))
theorem movedLen {Z s : State} {a0 args : Array Value} (hZ : Z.Warmed39 s.vm) (hw : ∀ d ∈ wordsLen, d.before a0 Z = true) : ∀ d ∈ wordsLen, d.before args s = true := fun d hd => by
  have q := hw d hd
  have t : ∀ d ∈ wordsLen, d = .arrayClass .byte ∨ (d.onTables && d.keepsFace) = true := by decide +kernel
  rcases t d hd with rfl | t
  · exact RoadKit.mvA hZ q
  · exact RoadKit.mv hZ q t
/-- the bytes of the chars cs, low before high -/
def wideBytes : List Int32 → List Value
  | [] => []
  | c :: cs => .int (lo8 c) :: .int (hi8 c) :: wideBytes cs
theorem wide_lo (d : Value) : ∀ (cs : List Int32) (j : Nat), j < cs.length → (wideBytes cs).getD (2 * j) d = .int (lo8 (cs.getD j 0))
  | [], j, h => absurd h (Nat.not_lt_zero j)
  | c :: cs, 0, _ => rfl
  | c :: cs, j + 1, h => by
    have q := wide_lo d cs j (by simpa using h)
    rw [show 2 * (j + 1) = 2 * j + 1 + 1 from by omega]
    simpa [wideBytes] using q
theorem wide_hi (d : Value) : ∀ (cs : List Int32) (j : Nat), j < cs.length → (wideBytes cs).getD (2 * j + 1) d = .int (hi8 (cs.getD j 0))
  | [], j, h => absurd h (Nat.not_lt_zero j)
  | c :: cs, 0, _ => rfl
  | c :: cs, j + 1, h => by
    have q := wide_hi d cs j (by simpa using h)
    rw [show 2 * (j + 1) + 1 = 2 * j + 1 + 1 + 1 from by omega]
    simpa [wideBytes] using q
theorem low_at (d : Value) (cs : List Int32) (j : Nat) (h : j < cs.length) : (cs.map fun c => Value.int (lo8 c)).getD j d = .int (lo8 (cs.getD j 0)) := by
  simp [List.getD_eq_getElem?_getD, h]
/-- an array of N2 bytes vs codes the chars cs by the coder cd -/
def CodA (cs : List Int32) (cd N2 : Int32) (vs : List Value) : Prop := (cd = 0 ∧ N2 = Int32.ofNat cs.length ∧ vs = (cs.map fun c => Value.int (lo8 c)) ∧ ∀ c ∈ cs, ¬ 255 < c) ∨ (cd = 1 ∧ N2 = Int32.ofNat (2 * cs.length) ∧ vs = wideBytes cs ∧ ∃ c ∈ cs, 255 < c)
theorem CodA.cod {cs : List Int32} {cd N2 : Int32} {vs : List Value} {V : Cell} (h : CodA cs cd N2 vs) (hn : 2 * cs.length < 2 ^ 31) (hs : V.slots.size = N2.toNatClampNeg) (hv : RoadKit.Has V vs (.int 0)) : Cod cd cs.length (fun j => cs.getD j 0) V := by
  rcases h with ⟨rfl, rfl, rfl, h⟩ | ⟨rfl, rfl, rfl, c, hc, hw⟩
  · rw [n32 (by omega)] at hs
    exact Or.inl ⟨rfl, hs, fun j hj => ⟨by rw [hv j (by omega), low_at _ _ _ hj], by
      have e : cs.getD j 0 = cs[j] := by simp [List.getD_eq_getElem?_getD, hj]
      show ¬ 255 < cs.getD j 0
      rw [e]; exact h _ (List.getElem_mem _)⟩⟩
  · rw [n32 (by omega)] at hs
    obtain ⟨j, hj, rfl⟩ := List.getElem_of_mem hc
    exact Or.inr ⟨rfl, hs, fun j hj => ⟨by rw [hv _ (by omega), wide_lo _ _ _ hj], by rw [hv _ (by omega), wide_hi _ _ _ hj]⟩, j, hj, by
      have e : cs.getD j 0 = cs[j] := by simp [List.getD_eq_getElem?_getD, hj]
      show 255 < cs.getD j 0
      rw [e]; exact hw⟩
/-- an object of exactly java/lang/String, its two fields found: as the laws ask it -/
theorem strObj {Z U : State} {a0 : Array Value} {kI : Nat} (wi : (Jvm.Cond.instantiable ST kI).before a0 Z = true) (al : Z.vm.Alike U.vm) {x : Addr} {v0 c0 : Value} (E : RoadKit.Exa Z U.heap x ST) (V : RoadKit.Fld Z U.heap x ST "value" "[B" v0) (C : RoadKit.Fld Z U.heap x ST "coder" "B" c0) :
    ∃ (D : Cell) (fV fC : Field), Blank ST x D U ∧ Found ST "value" "[B" fV U ∧ Found ST "coder" "B" fC U ∧ D.slots[fV.slot]? = some v0 ∧ D.slots[fC.slot]? = some c0 ∧ RoadKit.slotOf Z ST "value" "[B" = fV.slot ∧ RoadKit.slotOf Z ST "coder" "B" = fC.slot := by
  obtain ⟨D, cfV, kV, iV, fV, hD, gV, stV, knV, obV, asV, slV⟩ := V
  obtain ⟨D', cfC, kC, iC, fC, hD', gC, stC, -, -, asC, slC⟩ := C
  cases hD.symm.trans hD'
  obtain ⟨D2, kD, e1, e2, e3, e4, e5⟩ := E
  cases hD.symm.trans e1
  obtain ⟨c2, k2, i1, i2, i3, -⟩ := Cond.instantiable_spec wi
  cases e2.symm.trans i1
  cases e3.symm.trans i2
  obtain ⟨kU, u1, u2⟩ := al.2.2 _ _ e3
  exact ⟨D, fV, fC, ⟨hD, ⟨knV, fun q hq => by rw [hq] at obV; cases obV⟩, by rw [al.findClass]; exact e2, kU, u1, by rw [u2]; exact i3, by rw [u2]; exact e5 i3⟩, ⟨SBG.found_only al ⟨cfV, kV, iV, gV⟩, stV⟩, ⟨SBG.found_only al ⟨cfC, kC, iC, gC⟩, stC⟩, slV, slC, by simp [RoadKit.slotOf, gV], by simp [RoadKit.slotOf, gC]⟩
theorem sta_is {Z U : State} (al : Z.vm.Alike U.vm) {C n d : String} {v : Value} (S : RoadKit.Sta Z U.heap C n d v) : StaticIs U C n d v := by
  obtain ⟨cfS, iS, kS, fS, st, cS, t1, t2, t3, t4, t5, t6, t7⟩ := S
  exact StaticIs.there (s := { Z with heap := U.heap }) ⟨cfS, iS, kS, fS, st, cS, t1, t2, t3, t4, t5, (fun q => by rw [q] at t6; cases t6), t7⟩ al rfl
/-- **length() OF SUCH A STRING** -/
theorem lenW {p : Program} {l : Launch} {e : Env} {R : Room} {s : State} {args : Array Value} {below : List Frame} {len W : Nat} {Z : State} {a0 : Array Value} {h : Heap} (hZ : Z.Warmed39 s.vm) (hw : ∀ d ∈ wordsLen, d.before a0 Z = true) {kI : Nat} (wi : (Jvm.Cond.instantiable ST kI).before a0 Z = true)
    {x t : Addr} {kb : ClassId} {cs : List Int32} {cd N2 z : Int32} {vs : List Value} (E : RoadKit.Exa Z h x ST) (V : RoadKit.Fld Z h x ST "value" "[B" (.ref t)) (C : RoadKit.Fld Z h x ST "coder" "B" (.int cd)) (K : RoadKit.Arv Z h t kb .byte N2 vs (.int 0)) (hc : CodA cs cd N2 vs) (hb : ∀ c ∈ cs, ¬ c < 0 ∧ ¬ (65535 : Int32) < c)
    (S : RoadKit.Sta Z h ST "COMPACT_STRINGS" "Z" (.int z)) (hz : ¬ z = 0) (l2 : cs.length ≤ 4000) (hfr : 2 ≤ R.frames) (hlo : W + 25 ≤ R.locals) :
    Back l R p e below s args (⟨"java/lang/String", "length", "()I"⟩ : MethodName) len W (fun P a => a = #[.ref x] ∧ P.U.heap = h ∧ P.cells + 0 ≤ R.cells ∧ P.slots + 0 ≤ R.slots)
      (fun P _ v B => ∃ L, (v = some (.int (Int32.ofNat cs.length)) ∧ L = [] ∧ B.U.heap = h) ∧ B.locs = P.locs ++ L ∧ B.cells = P.cells + 0 ∧ B.slots = P.slots + 0) := by
  obtain ⟨A, K1, K2, K3, K4, K5, K6⟩ := K
  have hcod := hc.cod (by omega) K3 K5
  intro m meth c P g ig mk a X hg hsize hdg hW hn hp'
  obtain ⟨rfl, rfl, r1, r2⟩ := hp'
  have al : Z.vm.Alike P.U.vm := hZ.alike.trans X.warmed.alike
  obtain ⟨D, fV, fC, hB, F1, F2, g1, g2, -, -⟩ := strObj wi al E V C
  have hx : Txt x t A cd cs.length (fun j => cs.getD j 0) P.U := ⟨⟨_, hB.2.2.1, D, hB.1, rfl, by cases q : D.vm <;> first | rfl | exact absurd q (hB.2.1.2 _)⟩, Has.of hB F1 g1, Has.of hB F2 g2, ⟨K1.1, State.isArrayOf_alike al K1.2.1, K1.2.2, by rcases hcod with ⟨-, q, -⟩ | ⟨-, q, -⟩ <;> omega⟩, hcod, fun j hj => by
    have e : cs.getD j 0 = cs[j] := by simp [List.getD_eq_getElem?_getD, hj]
    show ¬ cs.getD j 0 < 0 ∧ ¬ 65535 < cs.getD j 0
    rw [e]; exact hb _ (List.getElem_mem _)⟩
  obtain ⟨v, B, X', ⟨⟨hv, hh⟩, hl, hk, hs⟩, st⟩ := Len.pays x t A cd cs.length (fun j => cs.getD j 0) z (tabLen_of (movedLen hZ hw)) hfr hlo m meth c P g ig mk _ X hg hsize hdg hW hn ⟨r1, r2, rfl, hx, sta_is al S, hz⟩
  exact ⟨v, B, X', ⟨[], ⟨hv, rfl, hh⟩, hl, hk, hs⟩, st⟩
end StrChars.Road
namespace StrChars.Road
open Jvm Sem ClassFile Op Lib Jvm.Stand Jvm.Free Jvm.Free.XT
open Jvm.Lib.Cold (StaticIs)
/-- the road's facts of a String, as the laws ask it -/
theorem txt_of {Z U : State} {a0 : Array Value} {kI : Nat} (wi : (Jvm.Cond.instantiable ST kI).before a0 Z = true) (al : Z.vm.Alike U.vm) {x t : Addr} {kb : ClassId} {cs : List Int32} {cd N2 : Int32} {vs : List Value} (E : RoadKit.Exa Z U.heap x ST) (V : RoadKit.Fld Z U.heap x ST "value" "[B" (.ref t)) (C : RoadKit.Fld Z U.heap x ST "coder" "B" (.int cd)) (K : RoadKit.Arv Z U.heap t kb .byte N2 vs (.int 0)) (hc : CodA cs cd N2 vs) (hb : ∀ c ∈ cs, ¬ c < 0 ∧ ¬ (65535 : Int32) < c) (l2 : cs.length ≤ 4000) :
    ∃ A, Txt x t A cd cs.length (fun j => cs.getD j 0) U := by
  obtain ⟨A, K1, K2, K3, K4, K5, K6⟩ := K
  have hcod := hc.cod (by omega) K3 K5
  obtain ⟨D, fV, fC, hB, F1, F2, g1, g2, -, -⟩ := strObj wi al E V C
  exact ⟨A, ⟨_, hB.2.2.1, D, hB.1, rfl, by cases q : D.vm <;> first | rfl | exact absurd q (hB.2.1.2 _)⟩, Has.of hB F1 g1, Has.of hB F2 g2, ⟨K1.1, State.isArrayOf_alike al K1.2.1, K1.2.2, by rcases hcod with ⟨-, q, -⟩ | ⟨-, q, -⟩ <;> omega⟩, hcod, fun j hj => by
    have e : cs.getD j 0 = cs[j] := by simp [List.getD_eq_getElem?_getD, hj]
    show ¬ cs.getD j 0 < 0 ∧ ¬ 65535 < cs.getD j 0
    rw [e]; exact hb _ (List.getElem_mem _)⟩
end StrChars.Road
namespace StrChars
open Jvm Sem ClassFile Op Lib Jvm.Stand Jvm.Free.XT Jvm.Free.ALB Jvm.Free.JM Jvm.Free
open Jvm.Lib.Cold (StaticIs)
namespace ChN
def yN : MethodName := ⟨"java/lang/String", "charAt", "(I)C"⟩
abbrev yB : ByteArray := jdk_42_method_56_code
theorem d0 : decode yB 0 = .ok (.aload_n 0, 1) := by decide +kernel
theorem d1 : decode yB 1 = .ok (.invokevirtual 492, 3) := by decide +kernel
theorem d4 : decode yB 4 = .ok (.ifCond (.eq) 12, 3) := by decide +kernel
theorem d7 : decode yB 7 = .ok (.aload_n 0, 1) := by decide +kernel
theorem d8 : decode yB 8 = .ok (.getfield 9, 3) := by decide +kernel
theorem d11 : decode yB 11 = .ok (.iload_n 1, 1) := by decide +kernel
theorem d12 : decode yB 12 = .ok (.invokestatic 495, 3) := by decide +kernel
theorem d15 : decode yB 15 = .ok (.ireturn, 1) := by decide +kernel
def site : List Cond := [.fieldLink "java/lang/String" 9 "java/lang/String" "value" "[B", IsL.tab, LChA.tab] ++ virtW "java/lang/String" 492 "java/lang/String" IsL.yN IsL.yN ++ staticW "java/lang/String" 495 LChA.yN
def tab : Cond := tabOf yN yB 2 (some .char) site
def P (x t : Addr) (V : Cell) (n : Nat) (f : Nat → Int32) (z : Int32) (fm : Value) (i : Nat) (args : Array Value) (s : State) : Prop := args = #[.ref x, .int (Int32.ofNat i)] ∧ Txt x t V 0 n f s ∧ i < n ∧ StaticIs s "java/lang/String" "COMPACT_STRINGS" "Z" (.int z) ∧ ¬ z = 0 ∧ StaticIs s "jdk/internal/util/Preconditions" "SIOOBE_FORMATTER" "Ljava/util/function/BiFunction;" fm ∧ fm.isRef = true
def E (f : Nat → Int32) (i : Nat) (r : Option Value) (s u : State) : Prop := XT.PureE (some (.int (f i))) r s u
/-- charAt(i) of a Latin-1 String of n chars, i < n: f i -/
theorem law (l : Launch) (x t : Addr) (V : Cell) (n : Nat) (f : Nat → Int32) (z : Int32) (fm : Value) (i : Nat) : Law l yN 2 1 3 40 yB 2 (some .char) site (P x t V n f z fm i) (E f i) [] 0 0 := by
  refine Law.of_walk (plainFor_of_name (by decide +kernel)) (by decide +kernel) (by decide +kernel) (by decide) (fun _ _ h => by rw [h.1]; rfl) (fun _ U U' hal hh h => ⟨h.1, h.2.1.mv hal hh, h.2.2.1, h.2.2.2.1.there hal hh, h.2.2.2.2.1, h.2.2.2.2.2.1.there hal hh, h.2.2.2.2.2.2⟩) (fun r U U' V V' h1 hal h2 h => XT.PureE.mv r U U' V V' h1 hal h2 h) ?_
  intro p e s m args below meth c s₁ X0 hexec hbytes hml hret hlk hnm hown hh0 W hP
  obtain ⟨rfl, hx, hi, s1, hz, s3, rf⟩ := hP
  have v31 := hx.2.2.2.1.2.2.2
  have hr := hx.2.2.2.2.2 i hi
  have hx0 := hx.mv X0.warmed.alike hh0
  have c1 : Steps p.tables e below (s₁.setTop (entryFrame m #[.ref x, .int (Int32.ofNat i)] 2)) (s₁.setTop (mkF m 1 #[.val (.ref x), .val (.int (Int32.ofNat i))] [.ref x])) := Steps.trans (entry rfl) (by
    show Steps p.tables e below (s₁.setTop (mkF m 0 #[.val (.ref x), .val (.int (Int32.ofNat i))] [])) _
    refine XS.aloadN X0.here hexec rfl (hb hbytes d0) rfl rfl ?_
    exact Steps.refl _)
  obtain ⟨v2, T2, X2, E2, g2⟩ := X0.callV hexec (IsL.law l x 0 z) hown (wks W (virtW "java/lang/String" 492 "java/lang/String" IsL.yN IsL.yN)) rfl (by decide) (wk W IsL.tab) (W := 0) (Nat.le_of_ble_eq_true rfl) (Nat.le_of_ble_eq_true rfl) (Nat.le_refl _) (Nat.le_refl _) (hx0.1.fc X0.warmed.alike) hx0.1.is (g := (mkF m 1 #[.val (.ref x), .val (.int (Int32.ofNat i))] [.ref x])) rfl (by rw [hml]; rfl) c1 (argsL := []) (rest := []) rfl rfl (by show 2 * 0 + 0 ≤ _; decide) (hb hbytes d1) (⟨rfl, hx0.2.2.1, hx.2.2.2.2.1.cd, s1.there X0.warmed.alike hh0, hz⟩)
  obtain ⟨rfl, q2⟩ := E2
  have hh2 := q2.trans hh0
  have hx2 := hx.mv X2.warmed.alike hh2
  obtain ⟨-, k1, k2⟩ | ⟨k0, -⟩ := hx.2.2.2.2.1
  · have c3 : Steps p.tables e below (s₁.setTop (entryFrame m #[.ref x, .int (Int32.ofNat i)] 2)) (T2.setTop (mkF m 8 #[.val (.ref x), .val (.int (Int32.ofNat i))] [.ref x])) := Steps.trans g2 (by
      refine XS.ifNo X2.here hexec rfl (hb hbytes d4) rfl (i0_eq_f (by decide)) ?_
      refine XS.aloadN X2.here hexec rfl (hb hbytes d7) rfl rfl ?_
      exact Steps.refl _)
    obtain ⟨T4, X4, q4, st4⟩ := X2.hget hexec hown (wk W (.fieldLink "java/lang/String" 9 "java/lang/String" "value" "[B")) hx2.2.1 (g := (mkF m 8 #[.val (.ref x), .val (.int (Int32.ofNat i))] [.ref x])) rfl (rest := []) rfl (hb hbytes d8)
    have hh4 := q4.trans hh2
    have c5 : Steps p.tables e below (s₁.setTop (entryFrame m #[.ref x, .int (Int32.ofNat i)] 2)) (T4.setTop (mkF m 12 #[.val (.ref x), .val (.int (Int32.ofNat i))] [.int (Int32.ofNat i), .ref t])) := (c3.trans (st4 _ (Steps.refl _))).trans (by
      refine XS.iloadN X4.here hexec rfl (hb hbytes d11) rfl ?_
      exact Steps.refl _)
    obtain ⟨v6, T6, X6, E6, g6⟩ := X4.callS hexec (LChA.law l t V i (lo8 (f i)) fm) hown (wks W (staticW "java/lang/String" 495 LChA.yN)) (wk W LChA.tab) (W := 0) (Nat.le_of_ble_eq_true rfl) (Nat.le_of_ble_eq_true rfl) (Nat.le_refl _) (Nat.le_refl _) (g := (mkF m 12 #[.val (.ref x), .val (.int (Int32.ofNat i))] [.int (Int32.ofNat i), .ref t])) rfl (by rw [hml]; rfl) c5 (argsL := [.ref t, .int (Int32.ofNat i)]) (rest := []) rfl rfl (by show 2 * 0 + 0 ≤ _; decide) (hb hbytes d12) (⟨rfl, hx.2.2.2.1.mv X4.warmed.alike hh4, (k2 i hi).1, s3.there X4.warmed.alike hh4, rf⟩)
    obtain ⟨rfl, q6⟩ := E6
    rw [chr8_lo8 hr.1 (k2 i hi).2] at g6
    exact ⟨T6, some (.int (f i)), _, _, _, X6, rfl, rfl, rfl, (fun h => by cases h), ⟨rfl, q6.trans hh4⟩, fun fs hl => Steps.trans g6 (X6.ireturnOut hexec hret (narrow_ch hr.1 hr.2) (Or.inr (Or.inr (Or.inr (Or.inl rfl)))) (hb hbytes d15) hl)⟩
  · exact absurd k0 (by decide)
theorem pays {l : Launch} {R : Room} {p : Program} {e : Env} {below : List Frame} {s : State} {sargs : Array Value} {len W : Nat} (x t : Addr) (V : Cell) (n : Nat) (f : Nat → Int32) (z : Int32) (fm : Value) (i : Nat) (htab : tab.before sargs s = true) (hfr : 4 ≤ R.frames) (hlo : W + 53 ≤ R.locals) :
    Back l R p e below s sargs yN len W (fun A₁ a₁ => A₁.cells + 0 ≤ R.cells ∧ A₁.slots + 0 ≤ R.slots ∧ P x t V n f z fm i a₁ A₁.U) (fun A₁ _ v₁ B₁ => E f i v₁ A₁.U B₁.U ∧ B₁.locs = A₁.locs ++ [] ∧ B₁.cells = A₁.cells + 0 ∧ B₁.slots = A₁.slots + 0) :=
  (law l x t V n f z fm i).pays htab hfr (by omega)
end ChN
end StrChars
namespace StrChars.Road
open Jvm Sem ClassFile Op Lib Jvm.Stand Jvm.Free Jvm.Free.XT
open Jvm.Lib.Cold (StaticIs)
/-- the words of String.charAt(int), the Latin-1 road alone -/
abbrev wordsChN : List Jvm.Cond := [.code ChN.yN ChN.yB 2 (some .char), .initialized ST, .fieldLink ST 9 ST "value" "[B", .fieldLink ST 38 ST "COMPACT_STRINGS" "Z", .fieldLink ST 15 ST "coder" "B", .code IsL.yN IsL.yB 1 (some .boolean), .methodLink ST 492 IsL.yN, .declares IsL.yN, .selects ST IsL.yN IsL.yN, .instanceMethod IsL.yN,
  .methodLink ST 495 LChA.yN, .static LChA.yN, .code LChA.yN LChA.yB 2 (some .char), .initialized "java/lang/StringLatin1", .methodLink "java/lang/StringLatin1" 9 JO.Str_checkIndex.yN, .static JO.Str_checkIndex.yN, .code JO.Str_checkIndex.yN JO.Str_checkIndex.yB 2 none,
  .fieldLink ST 1053 "jdk/internal/util/Preconditions" "SIOOBE_FORMATTER" "Ljava/util/function/BiFunction;", .methodLink ST 1059 JC.PreCheck.yN, .static JC.PreCheck.yN, .code JC.PreCheck.yN JC.PreCheck.yB 3 (some .int), .initialized "jdk/internal/util/Preconditions"]
theorem tabChN_of {a : Array Value} {s : State} (h : ∀ w ∈ wordsChN, w.before a s = true) : ChN.tab.before a s = true := by
  have hp : JC.PreCheck.tab.before a s = true := unparts (wk h (.code JC.PreCheck.yN JC.PreCheck.yB 3 (some .int))) (wks h (.initialized JC.PreCheck.yN.cls :: JC.PreCheck.site))
  have qk := consq hp h
  have hk : JO.Str_checkIndex.tab.before a s = true := unparts (wk qk (.code JO.Str_checkIndex.yN JO.Str_checkIndex.yB 2 none)) (wks qk (.initialized JO.Str_checkIndex.yN.cls :: JO.Str_checkIndex.site))
  have ql := consq hk h
  have hl : LChA.tab.before a s = true := unparts (wk ql (.code LChA.yN LChA.yB 2 (some .char))) (wks ql (.initialized LChA.yN.cls :: LChA.site))
  have hi : IsL.tab.before a s = true := unparts (wk h (.code IsL.yN IsL.yB 1 (some .boolean))) (wks h (.initialized IsL.yN.cls :: IsL.site))
  have q := consq hi (consq hl h)
  exact unparts (wk q (.code ChN.yN ChN.yB 2 (some .char))) (wks q (.initialized ChN.yN.cls :: ChN.site))
theorem movedChN {Z s : State} {a0 args : Array Value} (hZ : Z.Warmed39 s.vm) (hw : ∀ d ∈ wordsChN, d.before a0 Z = true) : ∀ d ∈ wordsChN, d.before args s = true := fun d hd => by
  have t : ∀ d ∈ wordsChN, (d.onTables && d.keepsFace) = true := by decide +kernel
  exact RoadKit.mv hZ (hw d hd) (t d hd)
/-- **charAt(i) OF A LATIN-1 STRING**, i < n: the char -/
theorem chN {p : Program} {l : Launch} {e : Env} {R : Room} {s : State} {args : Array Value} {below : List Frame} {len W : Nat} {Z : State} {a0 : Array Value} {h : Heap} (hZ : Z.Warmed39 s.vm) (hw : ∀ d ∈ wordsChN, d.before a0 Z = true) {kI : Nat} (wi : (Jvm.Cond.instantiable ST kI).before a0 Z = true)
    {x t : Addr} {kb : ClassId} {cs : List Int32} {N2 z : Int32} {vs : List Value} {fm : Value} {i : Nat} {j : Int32} (E : RoadKit.Exa Z h x ST) (V : RoadKit.Fld Z h x ST "value" "[B" (.ref t)) (C : RoadKit.Fld Z h x ST "coder" "B" (.int 0)) (K : RoadKit.Arv Z h t kb .byte N2 vs (.int 0)) (hc : CodA cs 0 N2 vs) (hb : ∀ c ∈ cs, ¬ c < 0 ∧ ¬ (65535 : Int32) < c)
    (S : RoadKit.Sta Z h ST "COMPACT_STRINGS" "Z" (.int z)) (hz : ¬ z = 0) (F : RoadKit.Sta Z h "jdk/internal/util/Preconditions" "SIOOBE_FORMATTER" "Ljava/util/function/BiFunction;" fm) (rf : fm.isRef = true) (l2 : cs.length ≤ 4000) (hi : i < cs.length) (hj : j = Int32.ofNat i) (hfr : 4 ≤ R.frames) (hlo : W + 53 ≤ R.locals) :
    Back l R p e below s args (⟨"java/lang/String", "charAt", "(I)C"⟩ : MethodName) len W (fun P a => a = #[.ref x, .int j] ∧ P.U.heap = h ∧ P.cells + 0 ≤ R.cells ∧ P.slots + 0 ≤ R.slots)
      (fun P _ v B => ∃ L, (v = some (.int (cs.getD i 0)) ∧ L = [] ∧ B.U.heap = h) ∧ B.locs = P.locs ++ L ∧ B.cells = P.cells + 0 ∧ B.slots = P.slots + 0) := by
  subst hj
  intro m meth c P g ig mk a X hg hsize hdg hW hn hp'
  obtain ⟨rfl, rfl, r1, r2⟩ := hp'
  have al : Z.vm.Alike P.U.vm := hZ.alike.trans X.warmed.alike
  obtain ⟨A, hx⟩ := txt_of wi al E V C K hc hb l2
  obtain ⟨v, B, X', ⟨⟨hv, hh⟩, hl, hk, hs⟩, st⟩ := ChN.pays x t A cs.length (fun j => cs.getD j 0) z fm i (tabChN_of (movedChN hZ hw)) hfr hlo m meth c P g ig mk _ X hg hsize hdg hW hn ⟨r1, r2, rfl, hx, hi, sta_is al S, hz, sta_is al F, rf⟩
  exact ⟨v, B, X', ⟨[], ⟨hv, rfl, hh⟩, hl, hk, hs⟩, st⟩
/-- what backV says of its String, as the contracts of this text ask it: cs's low bytes, coder 0 -/
theorem codOf {cs : List Int32} {n : Nat} (hn : cs.length = n) (hb : ∀ c ∈ cs, ¬ 255 < c) : CodA cs 0 (Int32.ofNat n) ((cs.map lo8).map Value.int) := Or.inl ⟨rfl, by rw [hn], by simp [List.map_map, Function.comp_def], hb⟩
end StrChars.Road
end Jvm.Pilot.@@N@@
namespace Jvm.Pilot.@@N@@
open Jvm Jvm.ClassFile Sem Op Lib Jvm.Free Jvm.Stand Jvm.LawKit Jvm.RoadKit Bundle Jvm.Pilot.@@N@@.Jvm.D
section OwnStr
variable {p : Program} {l : Launch} {e : Env} {R : Room} {s : State} {m : MethodId} {args : Array Value} {below : List Frame} {meth : Method} {c : Code} {Z : State} {EL : List (String × Nat)} {n0 : Nat} {own : String} {code : ByteArray} {ml : Nat} {bw : Bool} {vm : Vm} {T : State} {h h' : Heap} {locs : List Loc} {cells slots : Nat} {a0 : Array Value} {x t : Addr} {cs : List Int32} {len W : Nat} {ws : List Addr}
/-- the String at x, its bytes at t, spells cs -/
def Str (Z : State) (h : Heap) (x t : Addr) (cs : List Int32) : Prop := Exa Z h x "java/lang/String" ∧ (∃ (cd N : Int32) (vs : List Value) (kb : ClassId), Fld Z h x "java/lang/String" "value" "[B" (.ref t) ∧ Fld Z h x "java/lang/String" "coder" "B" (.int cd) ∧ Arv Z h t kb .byte N vs (.int 0) ∧ StrChars.Road.CodA cs cd N vs) ∧ (∀ c ∈ cs, ¬ c < 0 ∧ ¬ (65535 : Int32) < c) ∧ cs.length ≤ 4000
theorem Str.ext (E : Ext h h') (F : Str Z h x t cs) : Str Z h' x t cs := by
  obtain ⟨a1, ⟨cd, N, vs, kb, b1, b2, b3, b4⟩, r⟩ := F; exact ⟨a1.ext E, ⟨cd, N, vs, kb, b1.ext E, b2.ext E, b3.ext E, b4⟩, r⟩
theorem Str.keep (F : Str Z h x t cs) (K : Keep h h' ws) (q : x ∉ ws) (q' : t ∉ ws) : Str Z h' x t cs := by
  obtain ⟨a1, ⟨cd, N, vs, kb, b1, b2, b3, b4⟩, r⟩ := F; exact ⟨a1.keep K, ⟨cd, N, vs, kb, b1.keep K q, b2.keep K q, b3.keep K q', b4⟩, r⟩
theorem strLit {b : Addr} {kb : ClassId} {z : Int32} {vs : List Value} (E : Exa Z h x "java/lang/String") (C : Fld Z h x "java/lang/String" "coder" "B" (.int 0)) (V : Fld Z h x "java/lang/String" "value" "[B" (.ref b)) (K : Arv Z h b kb .byte z vs (.int 0)) (q : StrChars.Road.CodA cs 0 z vs) (r : ∀ c ∈ cs, ¬ c < 0 ∧ ¬ (65535 : Int32) < c) (r2 : cs.length ≤ 4000) : Str Z h x b cs := ⟨E, ⟨0, z, vs, kb, V, C, K, q⟩, r, r2⟩
theorem Str.open (F : Str Z h x t cs) (lat : ∀ c ∈ cs, ¬ (255 : Int32) < c) : ∃ kb, Fld Z h x "java/lang/String" "value" "[B" (.ref t) ∧ Fld Z h x "java/lang/String" "coder" "B" (.int 0) ∧ Arv Z h t kb .byte (Int32.ofNat cs.length) (cs.map fun c => Value.int (StrChars.lo8 c)) (.int 0) := by
  obtain ⟨a1, ⟨cd, N, vs, kb, b1, b2, b3, b4⟩, r1, r2⟩ := F
  rcases b4 with ⟨rfl, rfl, rfl, -⟩ | ⟨-, -, -, c, hc, q⟩
  · exact ⟨kb, b1, b2, b3⟩
  · exact absurd q (lat c hc)
theorem Str.exa (F : Str Z h x t cs) : Exa Z h x "java/lang/String" := F.1
theorem Str.lt (F : Str Z h x t cs) : x < h.size := F.1.lt
theorem Str.lt' (F : Str Z h x t cs) : t < h.size := by obtain ⟨_, ⟨_, _, _, _, -, -, b3, -⟩, -⟩ := F; exact b3.lt
theorem up8 {c : Int32} (q : ¬ (255 : Int32) < c) : ¬ (65535 : Int32) < c := fun r => q (by rw [Int32.lt_iff_toInt_lt] at r ⊢; have e1 : (65535 : Int32).toInt = 65535 := rfl; have e2 : (255 : Int32).toInt = 255 := rfl; omega)
theorem payLen (A : WS p l e R s m args below meth c Z EL n0 own code ml bw vm T h locs cells slots) (hw : ∀ d ∈ tables_1, d.before a0 Z = true) {kI : Nat} (wi : (Jvm.Cond.instantiable "java/lang/String" kI).before a0 Z = true) (F : Str Z h x t cs) {zc : Int32} (O : Sta Z Z.heap "java/lang/String" "COMPACT_STRINGS" "Z" (.int zc)) (hz : ¬ zc = 0) (hfr : 2 ≤ R.frames) (hlo : W + 25 ≤ R.locals) : BkN l R p e below (s.setVm vm) args (⟨"java/lang/String", "length", "()I"⟩ : MethodName) len W #[.ref x] h n0 [] (fun v h' => v = some (.int (Int32.ofNat cs.length)) ∧ h' = h) 0 0 := by
  obtain ⟨a1, ⟨cd, N, vs, kb, b1, b2, b3, b4⟩, r1, r2⟩ := F
  exact Back.mono (StrChars.Road.lenW A.hZ (fun d hd => hw d ((by decide +kernel : ∀ d ∈ StrChars.Road.wordsLen, d ∈ tables_1) d hd)) wi a1 b1 b2 b3 b4 r1 (O.ext A.old.2) hz r2 hfr hlo) (fun _ _ q => q) (fun B a v B' hp hq => by obtain ⟨L, ⟨q1, rfl, q3⟩, r⟩ := hq; exact ⟨[], ⟨Fr.nil n0, by rw [q3]; exact Keep.refl _ _, q1, q3⟩, r⟩)
theorem payCh (A : WS p l e R s m args below meth c Z EL n0 own code ml bw vm T h locs cells slots) (hw : ∀ d ∈ tables_1, d.before a0 Z = true) {kI : Nat} (wi : (Jvm.Cond.instantiable "java/lang/String" kI).before a0 Z = true) (F : Str Z h x t cs) (lat : ∀ c ∈ cs, ¬ (255 : Int32) < c) {zc : Int32} (O : Sta Z Z.heap "java/lang/String" "COMPACT_STRINGS" "Z" (.int zc)) (hz : ¬ zc = 0) {fm : Value} (O4 : Sta Z Z.heap "jdk/internal/util/Preconditions" "SIOOBE_FORMATTER" "Ljava/util/function/BiFunction;" fm) (rf : fm.isRef = true) (i : Nat) (hi : i < cs.length) {j : Int32} (hj : j = Int32.ofNat i) (hfr : 4 ≤ R.frames) (hlo : W + 53 ≤ R.locals) : BkN l R p e below (s.setVm vm) args (⟨"java/lang/String", "charAt", "(I)C"⟩ : MethodName) len W #[.ref x, .int j] h n0 [] (fun v h' => v = some (.int (cs.getD i 0)) ∧ h' = h) 0 0 := by
  obtain ⟨a1, ⟨cd, N, vs, kb, b1, b2, b3, b4⟩, r1, r2⟩ := F
  obtain rfl : cd = 0 := by
    rcases b4 with ⟨q, -⟩ | ⟨-, -, -, c, hc, q⟩
    · exact q
    · exact absurd q (lat c hc)
  exact Back.mono (StrChars.Road.chN A.hZ (fun d hd => hw d ((by decide +kernel : ∀ d ∈ StrChars.Road.wordsChN, d ∈ tables_1) d hd)) wi a1 b1 b2 b3 b4 r1 (O.ext A.old.2) hz (O4.ext A.old.2) rf r2 hi hj hfr hlo) (fun _ _ q => q) (fun B a v B' hp hq => by obtain ⟨L, ⟨q1, rfl, q3⟩, r⟩ := hq; exact ⟨[], ⟨Fr.nil n0, by rw [q3]; exact Keep.refl _ _, q1, q3⟩, r⟩)
theorem payNew (A : WS p l e R s m args below meth c Z EL n0 own code ml bw vm T h locs cells slots) (hw : ∀ d ∈ tables_1, d.before a0 Z = true) {kI : Nat} (wi : (Jvm.Cond.instantiable "java/lang/String" kI).before a0 Z = true) {b : Addr} {kC : ClassId} {d v0 c0 : Value} {N : Int32} (n : Nat) (gx : n0 ≤ x) (E : Exa Z h x "java/lang/String") (V : Fld Z h x "java/lang/String" "value" "[B" v0) (C : Fld Z h x "java/lang/String" "coder" "B" c0) (K : Arv Z h b kC .char N (cs.map Value.int) d) {zc : Int32} (O : Sta Z Z.heap "java/lang/String" "COMPACT_STRINGS" "Z" (.int zc)) (hz : ¬ zc = 0) (hn : cs.length = n) (hN : N = Int32.ofNat n) (l0 : 0 < n) (l2 : n ≤ 4000) (hp : ∀ c ∈ cs, ¬ c < 0 ∧ ¬ (255 : Int32) < c) (hfr : 4 ≤ R.frames) (hlo : W + 65 ≤ R.locals) :
    BkN l R p e below (s.setVm vm) args (⟨"java/lang/String", "<init>", "([C)V"⟩ : MethodName) len W #[.ref x, .ref b] h n0 [x] (fun v h' => v = none ∧ ∃ t : Addr, n0 ≤ t ∧ h.size ≤ t ∧ ¬ t = x ∧ Str Z h' x t cs) 1 n := by
  refine Back.mono (StrChars.Road.backV A.hZ (fun d hd => hw d ((by decide +kernel : ∀ d ∈ StrChars.Road.words, d ∈ tables_1) d hd)) wi gx A.sz E V C K (O.ext A.old.2) hz hn hN l0 l2 hp rfl hfr hlo) (fun _ _ q => q) (fun B a v B' hp' hq => ?_)
  obtain ⟨L, ⟨rfl, q2, q3, q4, q5, t, kb, q6, q7, q8, q9, q10⟩, r⟩ := hq
  exact ⟨L, ⟨q2, q3, rfl, t, q6, q7, q8, q4, ⟨0, N, _, kb, q9, q5, q10, by rw [hN]; exact StrChars.Road.codOf hn fun c hc => (hp c hc).2⟩, fun c hc => ⟨(hp c hc).1, up8 (hp c hc).2⟩, by omega⟩, r⟩
end OwnStr
end Jvm.Pilot.@@N@@
namespace Jvm.Pilot.@@N@@
open Jvm Jvm.ClassFile Sem Op Lib Jvm.Free Jvm.Stand Jvm.LawKit Jvm.RoadKit Bundle Jvm.Pilot.@@N@@.Jvm.D
theorem ln {P : Int32 → Prop} : ∀ c ∈ ([] : List Int32), P c := fun _ q => nomatch q
theorem lc {P : Int32 → Prop} {a : Int32} {L : List Int32} (q : P a) (r : ∀ c ∈ L, P c) : ∀ c ∈ a :: L, P c := fun c z => (List.mem_cons.mp z).elim (fun u => u ▸ q) (r c)
theorem cat_ref {v : Value} (h : v.isRef = true) : v.category = 1 := by cases v <;> first | rfl | cases h
theorem lat2 {L : List Int32} (q : ∀ c ∈ L, ¬ c < 0 ∧ ¬ (255 : Int32) < c) : ∀ c ∈ L, ¬ (255 : Int32) < c := fun c hc => (q c hc).2
theorem chr_id {z : Int32} (q : 0 ≤ z.toInt ∧ z.toInt ≤ 65535) : z.toUInt32.toUInt16.toUInt32.toInt32 = z := by
  have a := c_i2c z; exact Int32.toInt_inj.mp (by omega)
theorem nar_id {z : Int32} (q : 0 ≤ z.toInt ∧ z.toInt ≤ 65535) : nar .char z = z := chr_id q
theorem chr_rng (z : Int32) : 0 ≤ (z.toUInt32.toUInt16.toUInt32.toInt32).toInt ∧ (z.toUInt32.toUInt16.toUInt32.toInt32).toInt ≤ 65535 := by
  have a := c_i2c z; omega
theorem lat_of {z : Int32} (q : 0 ≤ z.toInt ∧ z.toInt ≤ 255) : ¬ z < 0 ∧ ¬ (255 : Int32) < z := by
  rw [Int32.lt_iff_toInt_lt, Int32.lt_iff_toInt_lt]; have e1 : (255 : Int32).toInt = 255 := rfl; have e2 : (0 : Int32).toInt = 0 := rfl; omega
theorem of_lat {z : Int32} (q : ¬ z < 0 ∧ ¬ (255 : Int32) < z) : 0 ≤ z.toInt ∧ z.toInt ≤ 255 := by
  rw [Int32.lt_iff_toInt_lt, Int32.lt_iff_toInt_lt] at q; have e1 : (255 : Int32).toInt = 255 := rfl; have e2 : (0 : Int32).toInt = 0 := rfl; omega
theorem lt_i {x y : Int32} : x < y ↔ x.toInt < y.toInt := Int32.lt_iff_toInt_lt
theorem and255 (x : Int32) : 0 ≤ (x &&& 255).toInt ∧ (x &&& 255).toInt ≤ 255 := c_and x 255 (by decide)
abbrev ELs : List (String × Nat) := [("com/example/await_in_turn/awaitinturn/QueueEntry", 24), ("com/example/await_in_turn/awaitinturn/QueueEntry", 29), ("java/lang/String", 7)]
theorem strA {Z : State} {a0 : Array Value} (hw : ∀ d ∈ tables_1, d.before a0 Z = true) : ∀ a ∈ Bundle.stringAtoms, a.before a0 Z = true := fun d hd => hw d ((by decide +kernel : ∀ d ∈ Bundle.stringAtoms, d ∈ tables_1) d hd)
theorem ofn {n : Nat} (h : n < 2147483648) : (Int32.ofNat n).toInt = n := Int32.toInt_ofNat_small h
theorem ofn_clamp {n : Nat} (h : n < 2147483648) : (Int32.ofNat n).toNatClampNeg = n := by simp only [Int32.toNatClampNeg, ofn h]; omega
theorem ofn_in {i n : Nat} (h : i < n) (hn : n < 2147483648) : ¬ Int32.ofNat i < 0 ∧ Int32.ofNat i < Int32.ofNat n := by
  rw [lt_i, lt_i, ofn (by omega), ofn hn]; have e : (0 : Int32).toInt = 0 := rfl; omega
theorem ofn_lt {i n : Nat} (hi : i < 2147483648) (hn : n < 2147483648) : Int32.ofNat i < Int32.ofNat n ↔ i < n := by rw [lt_i, ofn hi, ofn hn]; omega
theorem ofn_add {i n : Nat} (h : i + n < 2147483648) : Int32.ofNat i + Int32.ofNat n = Int32.ofNat (i + n) := by
  apply Int32.toInt_inj.mp; have a := c_iadd (Int32.ofNat i) (Int32.ofNat n); have b := rng32 (Int32.ofNat i + Int32.ofNat n); rw [ofn (by omega), ofn (by omega)] at a; rw [ofn h]; omega
theorem ofn_sub {i n : Nat} (h : n ≤ i) (hi : i < 2147483648) : Int32.ofNat i - Int32.ofNat n = Int32.ofNat (i - n) := by
  apply Int32.toInt_inj.mp; have a := c_isub (Int32.ofNat i) (Int32.ofNat n); have b := rng32 (Int32.ofNat i - Int32.ofNat n); rw [ofn (by omega), ofn (by omega)] at a; rw [ofn (by omega)]; omega
theorem ofn_one {i : Nat} (h : i + 1 < 2147483648) : Int32.ofNat i + 1 = Int32.ofNat (i + 1) := ofn_add (n := 1) h
theorem ofn_shl {i : Nat} (h : 2 * i < 2147483648) : Int32.ofNat i <<< ((1 : Int32) &&& 31) = Int32.ofNat (2 * i) := by
  apply Int32.toInt_inj.mp; have a := c_ishl (Int32.ofNat i) 1 1 (by decide); have b := rng32 (Int32.ofNat i <<< ((1 : Int32) &&& 31)); rw [ofn (by omega)] at a; rw [ofn h]; omega
theorem ofn_nn {n : Nat} (h : n < 2147483648) : ¬ Int32.ofNat n < 0 := by rw [lt_i, ofn h]; have e : (0 : Int32).toInt = 0 := rfl; omega
theorem lo88 (c : Int32) : (StrChars.lo8 c).toInt8.toInt32 = StrChars.lo8 c := by
  apply Int32.toInt_inj.mp; have a := c_i2b c; have b := c_i2b (StrChars.lo8 c); simp only [StrChars.lo8] at b ⊢; omega
theorem cod1 {n : Nat} (h0 : 0 < n) (h : 2 * n < 2147483648) : ((Int32.ofNat n - Int32.ofNat (2 * n)).toUInt32 >>> ((31 : Int32) &&& 31).toUInt32).toInt32 = 1 := by
  apply Int32.toInt_inj.mp; rw [c_iushr _ 31 31 (by decide) (by decide)]
  have a := c_isub (Int32.ofNat n) (Int32.ofNat (2 * n)); have b := rng32 (Int32.ofNat n - Int32.ofNat (2 * n)); rw [ofn (by omega), ofn h] at a
  have e : (1 : Int32).toInt = 1 := rfl; rw [e]; omega
theorem set2 {A R : List Value} {x y a b : Value} {i : Nat} (h : A.length = i) : ((A ++ x :: y :: R).set i a).set (i + 1) b = A ++ a :: b :: R := by
  subst h; rw [List.set_append_right _ _ (Nat.le_refl _), Nat.sub_self, List.set_cons_zero, List.set_append_right _ _ (Nat.le_succ _), show A.length.succ - A.length = 1 from by omega]; rfl
theorem wlen : ∀ cs : List Int32, (StrChars.Road.wideBytes cs).length = 2 * cs.length
  | [] => rfl
  | c :: cs => by rw [StrChars.Road.wideBytes, List.length_cons, List.length_cons, List.length_cons, wlen cs]; omega
theorem wapp : ∀ (cs : List Int32) (c : Int32), StrChars.Road.wideBytes (cs ++ [c]) = StrChars.Road.wideBytes cs ++ [.int (StrChars.lo8 c), .int (StrChars.hi8 c)]
  | [], c => rfl
  | d :: cs, c => by rw [List.cons_append, StrChars.Road.wideBytes, wapp cs c]; rfl
theorem getDm {cs : List Int32} {i : Nat} (d : Value) (h : i < cs.length) : (cs.map Value.int).getD i d = .int (cs.getD i 0) := by simp [List.getD_eq_getElem?_getD, h]
theorem take1 {cs : List Int32} {i : Nat} (h : i < cs.length) : cs.take (i + 1) = cs.take i ++ [cs.getD i 0] := by rw [List.take_succ_eq_append_getElem h]; simp [List.getD_eq_getElem?_getD, h]
theorem rep2 (k : Nat) : List.replicate (2 * (k + 1)) (Value.int 0) = .int 0 :: .int 0 :: List.replicate (2 * k) (Value.int 0) := by rw [show 2 * (k + 1) = 2 * k + 1 + 1 from by omega, List.replicate_succ, List.replicate_succ]

theorem pn0 : plainName "java/lang/String" = true := by first | (simp [plainName, overriddenIn]; done) | decide +kernel
theorem d2_0 : decode jdk_42_method_149_code 0 = .ok (.aload_n 0, 1) := by decide +kernel
theorem d2_1 : decode jdk_42_method_149_code 1 = .ok (.invokespecial 1, 3) := by decide +kernel
theorem d2_4 : decode jdk_42_method_149_code 4 = .ok (.iload_n 3, 1) := by decide +kernel
theorem d2_5 : decode jdk_42_method_149_code 5 = .ok (.ifCond .ne 22, 3) := by decide +kernel
theorem d2_8 : decode jdk_42_method_149_code 8 = .ok (.aload_n 0, 1) := by decide +kernel
theorem d2_9 : decode jdk_42_method_149_code 9 = .ok (.ldc 7, 2) := by decide +kernel
theorem d2_11 : decode jdk_42_method_149_code 11 = .ok (.getfield 9, 3) := by decide +kernel
theorem d2_14 : decode jdk_42_method_149_code 14 = .ok (.putfield 9, 3) := by decide +kernel
theorem d2_17 : decode jdk_42_method_149_code 17 = .ok (.aload_n 0, 1) := by decide +kernel
theorem d2_18 : decode jdk_42_method_149_code 18 = .ok (.ldc 7, 2) := by decide +kernel
theorem d2_20 : decode jdk_42_method_149_code 20 = .ok (.getfield 15, 3) := by decide +kernel
theorem d2_23 : decode jdk_42_method_149_code 23 = .ok (.putfield 15, 3) := by decide +kernel
theorem d2_26 : decode jdk_42_method_149_code 26 = .ok (.return_, 1) := by decide +kernel
set_option maxRecDepth 65536 in
set_option maxHeartbeats 40000000 in
theorem m_new4E (l : Launch) (Z : State) (a0 : Array Value) (hw : ∀ d ∈ tables_1, d.before a0 Z = true) (x b : Addr) (h0 : Heap) (n0 : Nat) (ho : Old Z n0 h0) (hEL : EW Z a0 ELs) (E : Exa Z h0 x "java/lang/String") (V : Fld Z h0 x "java/lang/String" "value" "[B" .null) (C : Fld Z h0 x "java/lang/String" "coder" "B" (.int 0)) (gx : n0 ≤ x) :
    CW l (⟨"java/lang/String", "<init>", "([CIILjava/lang/Void;)V"⟩ : MethodName) jdk_42_method_149_code 6 none [] ({ frames := 1, cells := 2, slots := 4, locals := 12 } : Room) Z ELs [x] n0 h0 #[(.ref x), (.ref b), (.int (0 : Int32)), (.int (0 : Int32)), .null] [x] (fun v h => v = none ∧ ∃ t : Addr, Str Z h x t []) := by
  refine CW.walk (plainFor_of_name pn0) ho (L0 := #[.val (.ref x), .val (.ref b), .val (.int (0 : Int32)), .val (.int (0 : Int32)), .val .null, .unset]) (fun m => rfl) ?_
  intro pG e s m below meth cO T hlk hret hnm hSL A0
  have K0 : Keep h0 h0 [x] := Keep.refl _ _
  have sx := hSL x (List.mem_singleton.mpr rfl)
  refine f_aloadN A0 d2_0 (pc' := 1) rfl rfl rfl ?_
  refine f_initO A0 (W := 0) d2_1 (pc' := 4) rfl (wd hw 11 rfl) (wd hw 12 rfl) (wd hw 13 rfl) rfl (by decide) (Nat.le_of_eq rfl) (by decide) fun T1 A1 => ?_
  refine f_iloadN A1 d2_4 (pc' := 5) rfl rfl ?_
  refine f_ifN A1 d2_5 ((if0 _ _).trans (teq (by decide : (0 : Int32) = (0 : Int32))).2) (pc' := 8) rfl ?_
  refine f_aloadN A1 d2_8 (pc' := 9) rfl rfl rfl ?_
  refine f_ldcC A1 d2_9 (pc' := 11) rfl (by decide) (vs := []) (z := 0) ⟨by decide, by decide⟩ (by decide) (by decide) (wd hw 268 rfl) (strA hw) hEL (n := 0) (by decide) (by decide) (by decide) (by decide) fun a2 b2 kb2 vm2 T2 h2 A2 E2 C2 Li2 x2 fc2 fv2 av2 hs2 => ?_
  have G2 : Str Z h2 a2 b2 [] := strLit x2 fc2 fv2 av2 (Or.inl ⟨rfl, rfl, rfl, by decide⟩) (by decide) (by decide)
  have Q3 : Keep h0 h2 [x] := K0.ext E2
  refine f_getF A2 d2_11 (pc' := 14) rfl (host := "") (Or.inl (wd hw 28 rfl)) Via.refl fv2 fun T4 A4 => ?_
  have c6 := (V.ext E2)
  have c7 := (E.ext E2)
  have c8 := (CHr.safe C2 E.lt sx)
  refine f_putF A4 (.ref b2) d2_14 (pc' := 17) rfl (wd hw 28 rfl) Via.refl c6 c7 (Or.inr ⟨(wd hw 29 rfl), rfl, hnm⟩) (wd hw 1 rfl) (ty := (.array .byte)) (by decide) rfl rfl gx (fun _ => c8) fun T5 h5 A5 W5 K5 X5 F5 => ?_
  have c9 := (C.ext E2)
  have Q10 : Keep h0 h5 [x] := Q3.trans K5 (allS (Or.inl (List.mem_of_getElem? (i := 0) rfl)) all0)
  refine f_aloadN A5 d2_17 (pc' := 18) rfl rfl rfl ?_
  refine f_ldcA A5 d2_18 (pc' := 20) rfl (wd hw 268 rfl) Li2 ?_
  have c13 := (fc2.keep K5 (ninS (Ne.symm (hs2 _ c8).1) nin0))
  refine f_getF A5 d2_20 (pc' := 23) rfl (host := "") (Or.inl (wd hw 26 rfl)) Via.refl c13 fun T12 A12 => ?_
  have c15 := (Safe.keep K5 (sfS c8 sf0) (A4.ch rfl).1 c8)
  refine f_putF A12 (.int (0 : Int32)) d2_23 (pc' := 26) rfl (wd hw 26 rfl) Via.refl (c9.other W5 (Or.inr (slot_ne (Or.inr (wd hw 27 rfl)) (Or.inr (wd hw 29 rfl)) (by decide) (t := .byte) (t' := (.array .byte)) (by decide) (by decide)))) X5 (Or.inr ⟨(wd hw 27 rfl), rfl, hnm⟩) (wd hw 1 rfl) (ty := .byte) (by decide) rfl (by decide) gx (fun _ => c15) fun T14 h14 A14 W14 K14 X14 F14 => ?_
  have Q16 : Keep h0 h14 [x] := Q10.trans K14 (allS (Or.inl (List.mem_of_getElem? (i := 0) rfl)) all0)
  have c17 := ((av2.keep K5 (ninS (Ne.symm (hs2 _ c8).2) nin0)).keep K14 (ninS (Ne.symm (hs2 _ c8).2) nin0))
  have G : Str Z h14 x b2 [] := strLit X14 F14 (F5.other W14 (Or.inr (slot_ne (Or.inr (wd hw 29 rfl)) (Or.inr (wd hw 27 rfl)) (by decide) (t := (.array .byte)) (t' := .byte) (by decide) (by decide)))) c17 (Or.inl ⟨rfl, rfl, rfl, by decide⟩) (by decide) (by decide)
  exact f_retW A14 hEL hlk hret d2_26 (by decide) (by decide) Q16 ⟨rfl, b2, G⟩
theorem d1_0 : decode jdk_42_method_3_code 0 = .ok (.aload_n 0, 1) := by decide +kernel
theorem d1_1 : decode jdk_42_method_3_code 1 = .ok (.aload_n 1, 1) := by decide +kernel
theorem d1_2 : decode jdk_42_method_3_code 2 = .ok (.iconst 0, 1) := by decide +kernel
theorem d1_3 : decode jdk_42_method_3_code 3 = .ok (.aload_n 1, 1) := by decide +kernel
theorem d1_4 : decode jdk_42_method_3_code 4 = .ok (.arraylength, 1) := by decide +kernel
theorem d1_5 : decode jdk_42_method_3_code 5 = .ok (.aconst_null, 1) := by decide +kernel
theorem d1_6 : decode jdk_42_method_3_code 6 = .ok (.invokespecial 27, 3) := by decide +kernel
theorem pd0 : parseMethodDescriptor "([CIILjava/lang/Void;)V" = some ⟨[(.array .char), .int, .int, (.object "java/lang/Void")], none⟩ := by decide +kernel
theorem d1_9 : decode jdk_42_method_3_code 9 = .ok (.return_, 1) := by decide +kernel
set_option maxRecDepth 65536 in
set_option maxHeartbeats 40000000 in
theorem m_new1E (l : Launch) (Z : State) (a0 : Array Value) (hw : ∀ d ∈ tables_1, d.before a0 Z = true) (x b : Addr) (kA : ClassId) (vs : List Value) (h0 : Heap) (n0 : Nat) (ho : Old Z n0 h0) (hEL : EW Z a0 ELs) (E : Exa Z h0 x "java/lang/String") (V : Fld Z h0 x "java/lang/String" "value" "[B" .null) (C : Fld Z h0 x "java/lang/String" "coder" "B" (.int 0)) (gx : n0 ≤ x) (Kb : Arv Z h0 b kA .char 0 vs (.int 0)) :
    CW l (⟨"java/lang/String", "<init>", "([C)V"⟩ : MethodName) jdk_42_method_3_code 2 none [] ({ frames := 2, cells := 2, slots := 4, locals := 40 } : Room) Z ELs [x] n0 h0 #[(.ref x), (.ref b)] [x] (fun v h => v = none ∧ ∃ t : Addr, Str Z h x t []) := by
  refine CW.walk (plainFor_of_name pn0) ho (L0 := #[.val (.ref x), .val (.ref b)]) (fun m => rfl) ?_
  intro pG e s m below meth cO T hlk hret hnm hSL A0
  have K0 : Keep h0 h0 [x] := Keep.refl _ _
  have sx := hSL x (List.mem_singleton.mpr rfl)
  refine f_aloadN A0 d1_0 (pc' := 1) rfl rfl rfl ?_
  refine f_aloadN A0 d1_1 (pc' := 2) rfl rfl rfl ?_
  refine f_iconst A0 d1_2 (pc' := 3) rfl 0 rfl ?_
  refine f_aloadN A0 d1_3 (pc' := 4) rfl rfl rfl ?_
  refine f_arraylength A0 d1_4 (pc' := 5) rfl Kb ?_
  refine f_aconst_null A0 d1_5 (pc' := 6) rfl ?_
  refine f_callIW A0 (a := x) d1_6 (pc' := 9) rfl rfl (wd hw 7 rfl) (wd hw 8 rfl) (wd hw 10 rfl) (by decide) pd0 [(.ref b), (.int (0 : Int32)), (.int (0 : Int32)), .null] [] rfl rfl rfl 0 (Nat.le_of_eq rfl) (CW.pay (W := 0) A0 hEL (m_new4E l Z a0 hw x b h0 n0 A0.old hEL E V C gx) (wd hw 10 rfl) (wd hw 2 rfl) (by decide) (by decide) (allS ⟨E.lt, sx⟩ all0)) (kc := 2) (ks := 4) (by decide) (by decide) (allS gx all0) fun v18 vm18 T18 h18 L18 A18 K18 C18 q18 => ?_
  have Q19 : Keep h0 h18 [x] := K0.trans K18 (allS (Or.inl (List.mem_of_getElem? (i := 0) rfl)) all0)
  obtain ⟨rfl, t18, G18⟩ := q18
  show Wp pG e below _ T18 (mkF m 9 _ [])
  exact f_retW A18 hEL hlk hret d1_9 (by decide) (by decide) Q19 ⟨rfl, t18, G18⟩
theorem d36_0 : decode jdk_42_method_154_code 0 = .ok (.getstatic 38, 3) := by decide +kernel
theorem d36_3 : decode jdk_42_method_154_code 3 = .ok (.ifCond .eq 14, 3) := by decide +kernel
theorem d36_6 : decode jdk_42_method_154_code 6 = .ok (.aload_n 0, 1) := by decide +kernel
theorem d36_7 : decode jdk_42_method_154_code 7 = .ok (.getfield 15, 3) := by decide +kernel
theorem d36_10 : decode jdk_42_method_154_code 10 = .ok (.ifCond .ne 7, 3) := by decide +kernel
theorem d36_13 : decode jdk_42_method_154_code 13 = .ok (.iconst 1, 1) := by decide +kernel
theorem d36_14 : decode jdk_42_method_154_code 14 = .ok (.goto 4, 3) := by decide +kernel
theorem d36_18 : decode jdk_42_method_154_code 18 = .ok (.ireturn, 1) := by decide +kernel
set_option maxRecDepth 65536 in
set_option maxHeartbeats 40000000 in
theorem m_isLat (l : Launch) (Z : State) (a0 : Array Value) (hw : ∀ d ∈ tables_1, d.before a0 Z = true) (x : Addr) (zc : Int32) (O2 : Sta Z Z.heap "java/lang/String" "COMPACT_STRINGS" "Z" (.int zc)) (P5 : ¬ zc = 0) (h0 : Heap) (n0 : Nat) (ho : Old Z n0 h0) (C : Fld Z h0 x "java/lang/String" "coder" "B" (.int 0)) :
    CN l (⟨"java/lang/String", "isLatin1", "()Z"⟩ : MethodName) jdk_42_method_154_code 1 (some .boolean) [] ({ frames := 0, cells := 0, slots := 0, locals := 0 } : Room) Z n0 h0 #[(.ref x)] [] (fun v h => v = some (.int 1) ∧ h = h0) := by
  refine CN.walk (plainFor_of_name pn0) ho (L0 := #[.val (.ref x)]) (fun m => rfl) ?_
  intro pG e s m below meth cO T hlk hret hnm A0
  have K0 : Keep h0 h0 [] := Keep.refl _ _
  refine f_getS A0 d36_0 (pc' := 3) rfl (host := "") (Or.inl (wd hw 14 rfl)) Via.refl O2 fun T20 A20 => ?_
  refine f_ifN A20 d36_3 ((if0 _ _).trans (feq P5).1) (pc' := 6) rfl ?_
  refine f_aloadN A20 d36_6 (pc' := 7) rfl rfl rfl ?_
  refine f_getF A20 d36_7 (pc' := 10) rfl (host := "") (Or.inl (wd hw 26 rfl)) Via.refl C fun T21 A21 => ?_
  refine f_ifN A21 d36_10 ((if0 _ _).trans (teq (by decide : (0 : Int32) = (0 : Int32))).2) (pc' := 13) rfl ?_
  refine f_iconst A21 d36_13 (pc' := 14) rfl 1 rfl ?_
  refine f_goto A21 d36_14 (pc' := 18) (by decide) (by decide) ?_
  exact f_retBN A21 hlk hret d36_18 (by decide) (1 : Int32) (by decide) (by decide) (by decide) K0 ⟨rfl, rfl⟩
theorem la {P : Int32 → Prop} {A B : List Int32} (q : ∀ c ∈ A, P c) (r : ∀ c ∈ B, P c) : ∀ c ∈ A ++ B, P c := fun c z => (List.mem_append.mp z).elim (q c) (r c)
def pad (cap : Nat) (cs : List Int32) : List Value := (cs.map fun c => Value.int (StrChars.lo8 c)) ++ List.replicate (cap - cs.length) (.int 0)
theorem pad_len {cap : Nat} {cs : List Int32} (h : cs.length ≤ cap) : (pad cap cs).length = cap := by simp [pad]; omega
theorem pad_full (cs : List Int32) : pad cs.length cs = cs.map fun c => Value.int (StrChars.lo8 c) := by simp [pad]
theorem pad_nil (cap : Nat) : pad cap [] = List.replicate cap (.int 0) := by simp [pad]
theorem pad_cpy {cap : Nat} {cs ds : List Int32} (h : cs.length + ds.length ≤ cap) : (pad cap cs).take cs.length ++ (ds.map fun c => Value.int (StrChars.lo8 c)) ++ (pad cap cs).drop (cs.length + ds.length) = pad cap (cs ++ ds) := by
  have e1 : (pad cap cs).take cs.length = cs.map fun c => Value.int (StrChars.lo8 c) := by rw [pad]; exact List.take_left' (by simp)
  have e2 : (pad cap cs).drop (cs.length + ds.length) = List.replicate (cap - (cs ++ ds).length) (.int 0) := by
    rw [pad, ← List.drop_drop, List.drop_left' (by simp), List.drop_replicate, List.length_append]; congr 1; omega
  rw [e1, e2, pad, List.map_append]
theorem rng_get {vs : List Value} {d : Value} : (List.range vs.length).map (fun i => vs.getD (0 + i) d) = vs := by
  apply List.ext_getElem
  · simp
  · intro i h1 h2; simp [List.getD_eq_getElem?_getD, List.getElem?_eq_getElem h2]
theorem rng_pad {cap : Nat} {cs : List Int32} {d : Value} (h : cs.length ≤ cap) : (List.range cs.length).map (fun i => (pad cap cs).getD (0 + i) d) = cs.map fun c => Value.int (StrChars.lo8 c) := by
  apply List.ext_getElem
  · simp
  · intro i h1 h2
    have h3 : i < cs.length := by simpa using h1
    simp [pad, List.getD_eq_getElem?_getD, List.getElem?_append_left, h3]
theorem shl0 (x : Int32) : x <<< ((0 : Int32) &&& 31) = x := by
  apply Int32.toInt_inj.mp; have a := c_ishl x 0 0 (by decide); have b := rng32 (x <<< ((0 : Int32) &&& 31)); have c := rng32 x; omega
theorem ofn_le0 {a b : Nat} (h : a ≤ b) (hb : b < 2147483648) : ¬ (0 : Int32) < Int32.ofNat a - Int32.ofNat b := by
  have x := c_isub (Int32.ofNat a) (Int32.ofNat b); have y := rng32 (Int32.ofNat a - Int32.ofNat b); rw [ofn (by omega), ofn hb] at x; rw [lt_i]; have e : (0 : Int32).toInt = 0 := rfl; omega
def SBd (Z : State) (h : Heap) (b v : Addr) (kb : ClassId) (cap : Nat) (cs : List Int32) : Prop := Exa Z h b "java/lang/StringBuilder" ∧ Fld Z h b "java/lang/AbstractStringBuilder" "value" "[B" (.ref v) ∧ Fld Z h b "java/lang/AbstractStringBuilder" "coder" "B" (.int 0) ∧ Fld Z h b "java/lang/AbstractStringBuilder" "count" "I" (.int (Int32.ofNat cs.length)) ∧ Arv Z h v kb .byte (Int32.ofNat cap) (pad cap cs) (.int 0) ∧ Exa Z h v "[B"
theorem SBd.ext {Z : State} {h h' : Heap} {b v : Addr} {kb : ClassId} {cap : Nat} {cs : List Int32} (E : Ext h h') (F : SBd Z h b v kb cap cs) : SBd Z h' b v kb cap cs := ⟨F.1.ext E, F.2.1.ext E, F.2.2.1.ext E, F.2.2.2.1.ext E, F.2.2.2.2.1.ext E, F.2.2.2.2.2.ext E⟩
theorem SBd.keep {Z : State} {h h' : Heap} {b v : Addr} {kb : ClassId} {cap : Nat} {cs : List Int32} {ws : List Addr} (F : SBd Z h b v kb cap cs) (K : Keep h h' ws) (q : b ∉ ws) (q' : v ∉ ws) : SBd Z h' b v kb cap cs := ⟨F.1.keep K, F.2.1.keep K q, F.2.2.1.keep K q, F.2.2.2.1.keep K q, F.2.2.2.2.1.keep K q', F.2.2.2.2.2.keep K⟩
theorem Str.openL {Z : State} {h : Heap} {x t : Addr} {cs : List Int32} (F : Str Z h x t cs) (lat : ∀ c ∈ cs, ¬ (255 : Int32) < c) : ∃ kb, Fld Z h x "java/lang/String" "value" "[B" (.ref t) ∧ Fld Z h x "java/lang/String" "coder" "B" (.int 0) ∧ Arv Z h t kb .byte (Int32.ofNat cs.length) (cs.map fun c => Value.int (StrChars.lo8 c)) (.int 0) := F.open lat
theorem pn1 : plainName "java/lang/AbstractStringBuilder" = true := by first | (simp [plainName, overriddenIn]; done) | decide +kernel
theorem d10_0 : decode jdk_68_method_2_code 0 = .ok (.aload_n 0, 1) := by decide +kernel
theorem d10_1 : decode jdk_68_method_2_code 1 = .ok (.invokespecial 3, 3) := by decide +kernel
theorem d10_4 : decode jdk_68_method_2_code 4 = .ok (.getstatic 18, 3) := by decide +kernel
theorem d10_7 : decode jdk_68_method_2_code 7 = .ok (.ifCond .eq 18, 3) := by decide +kernel
theorem d10_10 : decode jdk_68_method_2_code 10 = .ok (.aload_n 0, 1) := by decide +kernel
theorem d10_11 : decode jdk_68_method_2_code 11 = .ok (.iload_n 1, 1) := by decide +kernel
theorem d10_12 : decode jdk_68_method_2_code 12 = .ok (.newarray .byte, 2) := by decide +kernel
theorem d10_14 : decode jdk_68_method_2_code 14 = .ok (.putfield 15, 3) := by decide +kernel
theorem d10_17 : decode jdk_68_method_2_code 17 = .ok (.aload_n 0, 1) := by decide +kernel
theorem d10_18 : decode jdk_68_method_2_code 18 = .ok (.iconst 0, 1) := by decide +kernel
theorem d10_19 : decode jdk_68_method_2_code 19 = .ok (.putfield 22, 3) := by decide +kernel
theorem d10_22 : decode jdk_68_method_2_code 22 = .ok (.goto 16, 3) := by decide +kernel
theorem d10_38 : decode jdk_68_method_2_code 38 = .ok (.return_, 1) := by decide +kernel
set_option maxRecDepth 65536 in
set_option maxHeartbeats 40000000 in
theorem m_asbI (l : Launch) (Z : State) (a0 : Array Value) (hw : ∀ d ∈ tables_1, d.before a0 Z = true) (b : Addr) (zc : Int32) (O2 : Sta Z Z.heap "java/lang/String" "COMPACT_STRINGS" "Z" (.int zc)) (P5 : ¬ zc = 0) (h0 : Heap) (n0 : Nat) (ho : Old Z n0 h0) (E : Exa Z h0 b "java/lang/StringBuilder") (Fv : Fld Z h0 b "java/lang/AbstractStringBuilder" "value" "[B" .null) (Fc : Fld Z h0 b "java/lang/AbstractStringBuilder" "coder" "B" (.int 0)) (Fn : Fld Z h0 b "java/lang/AbstractStringBuilder" "count" "I" (.int 0)) (gb : n0 ≤ b) :
    CN l (⟨"java/lang/AbstractStringBuilder", "<init>", "(I)V"⟩ : MethodName) jdk_68_method_2_code 2 none [] ({ frames := 1, cells := 1, slots := 16, locals := 12 } : Room) Z n0 h0 #[(.ref b), (.int (16 : Int32))] [b] (fun r h => r = none ∧ ∃ (v : Addr) (kb : ClassId), n0 ≤ v ∧ h0.size ≤ v ∧ SBd Z h b v kb 16 []) := by
  refine CN.walk (plainFor_of_name pn1) ho (L0 := #[.val (.ref b), .val (.int (16 : Int32))]) (fun m => rfl) ?_
  intro pG e s m below meth cO T hlk hret hnm A0
  have K0 : Keep h0 h0 [b] := Keep.refl _ _
  refine f_aloadN A0 d10_0 (pc' := 1) rfl rfl rfl ?_
  refine f_initO A0 (W := 0) d10_1 (pc' := 4) rfl (wd hw 58 rfl) (wd hw 12 rfl) (wd hw 13 rfl) rfl (by decide) (Nat.le_of_eq rfl) (by decide) fun T22 A22 => ?_
  refine f_getS A22 d10_4 (pc' := 7) rfl (host := "") (Or.inl (wd hw 59 rfl)) Via.refl O2 fun T23 A23 => ?_
  refine f_ifN A23 d10_7 ((if0 _ _).trans (feq P5).1) (pc' := 10) rfl ?_
  refine f_aloadN A23 d10_10 (pc' := 11) rfl rfl rfl ?_
  refine f_iloadN A23 d10_11 (pc' := 12) rfl rfl ?_
  refine f_newP A23 16 d10_12 (pc' := 14) rfl (wd hw 19 rfl) (by decide) (by decide) (by decide) (by decide) (by decide) (ad := "[B") (by decide) fun a24 T24 h24 k24 g24 A24 E24 F24 X24 => ?_
  have z24 : n0 ≤ a24 := Nat.le_trans A23.sz (Nat.le_of_eq g24.symm)
  have y24 : h0.size ≤ a24 := Nat.le_trans K0.1 (Nat.le_of_eq g24.symm)
  have Q25 : Keep h0 h24 [b] := K0.ext E24
  have V24 : Arv Z h24 a24 k24 .byte (16 : Int32) [(.int (0 : Int32)), (.int (0 : Int32)), (.int (0 : Int32)), (.int (0 : Int32)), (.int (0 : Int32)), (.int (0 : Int32)), (.int (0 : Int32)), (.int (0 : Int32)), (.int (0 : Int32)), (.int (0 : Int32)), (.int (0 : Int32)), (.int (0 : Int32)), (.int (0 : Int32)), (.int (0 : Int32)), (.int (0 : Int32)), (.int (0 : Int32))] (.int (0 : Int32)) := F24.pad (pad_rep [] (.int (0 : Int32)) 16)
  have c27 := (Fv.ext E24)
  have c28 := (E.ext E24)
  refine f_putF A24 (.ref a24) d10_14 (pc' := 17) rfl (wd hw 60 rfl) Via.refl c27 c28 (Or.inl (wd hw 61 rfl)) (wd hw 47 rfl) (ty := (.array .byte)) (by decide) rfl rfl gb (fun q => nomatch q) fun T26 h26 A26 W26 K26 X26 F26 => ?_
  have c29 := (Fc.ext E24)
  have c30 := (Fn.ext E24)
  have Q31 : Keep h0 h26 [b] := Q25.trans K26 (allS (Or.inl (List.mem_of_getElem? (i := 0) rfl)) all0)
  refine f_aloadN A26 d10_17 (pc' := 18) rfl rfl rfl ?_
  refine f_iconst A26 d10_18 (pc' := 19) rfl 0 rfl ?_
  refine f_putF A26 (.int (0 : Int32)) d10_19 (pc' := 22) rfl (wd hw 62 rfl) Via.refl (c29.other W26 (Or.inr (slot_ne (Or.inl (wd hw 63 rfl)) (Or.inl (wd hw 61 rfl)) (by decide) (t := .byte) (t' := (.array .byte)) (by decide) (by decide)))) X26 (Or.inl (wd hw 63 rfl)) (wd hw 47 rfl) (ty := .byte) (by decide) rfl (by decide) gb (fun q => nomatch q) fun T32 h32 A32 W32 K32 X32 F32 => ?_
  have Q33 : Keep h0 h32 [b] := Q31.trans K32 (allS (Or.inl (List.mem_of_getElem? (i := 0) rfl)) all0)
  refine f_goto A32 d10_22 (pc' := 38) (by decide) (by decide) ?_
  have c34 := ((V24.keep K26 (ninS (Ne.symm (Nat.ne_of_lt (Nat.lt_of_lt_of_le E.lt (Nat.le_of_eq g24.symm)))) nin0)).keep K32 (ninS (Ne.symm (Nat.ne_of_lt (Nat.lt_of_lt_of_le E.lt (Nat.le_of_eq g24.symm)))) nin0))
  have c35 := ((X24.keep K26).keep K32)
  exact f_retN A32 hlk hret d10_38 (by decide) (by decide) Q33 ⟨rfl, a24, k24, z24, y24, X32, (F26.other W32 (Or.inr (slot_ne (Or.inl (wd hw 61 rfl)) (Or.inl (wd hw 63 rfl)) (by decide) (t := (.array .byte)) (t' := .byte) (by decide) (by decide)))), F32, ((c30.other W26 (Or.inr (slot_ne (Or.inl (wd hw 85 rfl)) (Or.inl (wd hw 61 rfl)) (by decide) (t := .int) (t' := (.array .byte)) (by decide) (by decide)))).other W32 (Or.inr (slot_ne (Or.inl (wd hw 85 rfl)) (Or.inl (wd hw 63 rfl)) (by decide) (t := .int) (t' := .byte) (by decide) (by decide)))), by rw [pad_nil]; exact c34, c35⟩
theorem pn2 : plainName "java/lang/StringBuilder" = true := by first | (simp [plainName, overriddenIn]; done) | decide +kernel
theorem d9_0 : decode jdk_67_method_1_code 0 = .ok (.aload_n 0, 1) := by decide +kernel
theorem d9_1 : decode jdk_67_method_1_code 1 = .ok (.bipush 16, 2) := by decide +kernel
theorem d9_3 : decode jdk_67_method_1_code 3 = .ok (.invokespecial 1, 3) := by decide +kernel
theorem pd1 : parseMethodDescriptor "(I)V" = some ⟨[.int], none⟩ := by decide +kernel
theorem d9_6 : decode jdk_67_method_1_code 6 = .ok (.return_, 1) := by decide +kernel
set_option maxRecDepth 65536 in
set_option maxHeartbeats 40000000 in
theorem m_sbI (l : Launch) (Z : State) (a0 : Array Value) (hw : ∀ d ∈ tables_1, d.before a0 Z = true) (b : Addr) (zc : Int32) (O2 : Sta Z Z.heap "java/lang/String" "COMPACT_STRINGS" "Z" (.int zc)) (P5 : ¬ zc = 0) (h0 : Heap) (n0 : Nat) (ho : Old Z n0 h0) (E : Exa Z h0 b "java/lang/StringBuilder") (Fv : Fld Z h0 b "java/lang/AbstractStringBuilder" "value" "[B" .null) (Fc : Fld Z h0 b "java/lang/AbstractStringBuilder" "coder" "B" (.int 0)) (Fn : Fld Z h0 b "java/lang/AbstractStringBuilder" "count" "I" (.int 0)) (gb : n0 ≤ b) :
    CN l (⟨"java/lang/StringBuilder", "<init>", "()V"⟩ : MethodName) jdk_67_method_1_code 1 none [] ({ frames := 2, cells := 1, slots := 16, locals := 28 } : Room) Z n0 h0 #[(.ref b)] [b] (fun r h => r = none ∧ ∃ (v : Addr) (kb : ClassId), n0 ≤ v ∧ h0.size ≤ v ∧ SBd Z h b v kb 16 []) := by
  refine CN.walk (plainFor_of_name pn2) ho (L0 := #[.val (.ref b)]) (fun m => rfl) ?_
  intro pG e s m below meth cO T hlk hret hnm A0
  have K0 : Keep h0 h0 [b] := Keep.refl _ _
  refine f_aloadN A0 d9_0 (pc' := 1) rfl rfl rfl ?_
  refine f_bipush A0 d9_1 (pc' := 3) rfl 16 rfl ?_
  refine f_callI A0 (a := b) d9_3 (pc' := 6) rfl rfl (wd hw 52 rfl) (wd hw 53 rfl) (wd hw 57 rfl) (by decide) pd1 [(.int (16 : Int32))] [] rfl rfl rfl 0 (Nat.le_of_eq rfl) (CN.pay (W := 0) A0 (m_asbI l Z a0 hw b zc O2 P5 h0 n0 A0.old E Fv Fc Fn gb) (wd hw 57 rfl) (wd hw 56 rfl) (by decide) (by decide)) (kc := 1) (ks := 16) (by decide) (by decide) (allS gb all0) (fun q => nomatch q) fun v36 T36 h36 L36 A36 K36 q36 => ?_
  have Q37 : Keep h0 h36 [b] := K0.trans K36 (allS (Or.inl (List.mem_of_getElem? (i := 0) rfl)) all0)
  obtain ⟨rfl, v, kb, zv, gv, B⟩ := q36
  show Wp pG e below _ T36 (mkF m 6 _ [])
  exact f_retN A36 hlk hret d9_6 (by decide) (by decide) Q37 ⟨rfl, v, kb, zv, gv, B⟩
theorem d14_0 : decode jdk_42_method_152_code 0 = .ok (.getstatic 38, 3) := by decide +kernel
theorem d14_3 : decode jdk_42_method_152_code 3 = .ok (.ifCond .eq 10, 3) := by decide +kernel
theorem d14_6 : decode jdk_42_method_152_code 6 = .ok (.aload_n 0, 1) := by decide +kernel
theorem d14_7 : decode jdk_42_method_152_code 7 = .ok (.getfield 15, 3) := by decide +kernel
theorem d14_10 : decode jdk_42_method_152_code 10 = .ok (.goto 4, 3) := by decide +kernel
theorem d14_14 : decode jdk_42_method_152_code 14 = .ok (.ireturn, 1) := by decide +kernel
set_option maxRecDepth 65536 in
set_option maxHeartbeats 40000000 in
theorem m_cod0 (l : Launch) (Z : State) (a0 : Array Value) (hw : ∀ d ∈ tables_1, d.before a0 Z = true) (x : Addr) (zc : Int32) (O2 : Sta Z Z.heap "java/lang/String" "COMPACT_STRINGS" "Z" (.int zc)) (P5 : ¬ zc = 0) (h0 : Heap) (n0 : Nat) (ho : Old Z n0 h0) (C : Fld Z h0 x "java/lang/String" "coder" "B" (.int 0)) :
    CN l (⟨"java/lang/String", "coder", "()B"⟩ : MethodName) jdk_42_method_152_code 1 (some .byte) [] ({ frames := 0, cells := 0, slots := 0, locals := 0 } : Room) Z n0 h0 #[(.ref x)] [] (fun v h => v = some (.int 0) ∧ h = h0) := by
  refine CN.walk (plainFor_of_name pn0) ho (L0 := #[.val (.ref x)]) (fun m => rfl) ?_
  intro pG e s m below meth cO T hlk hret hnm A0
  have K0 : Keep h0 h0 [] := Keep.refl _ _
  refine f_getS A0 d14_0 (pc' := 3) rfl (host := "") (Or.inl (wd hw 14 rfl)) Via.refl O2 fun T38 A38 => ?_
  refine f_ifN A38 d14_3 ((if0 _ _).trans (feq P5).1) (pc' := 6) rfl ?_
  refine f_aloadN A38 d14_6 (pc' := 7) rfl rfl rfl ?_
  refine f_getF A38 d14_7 (pc' := 10) rfl (host := "") (Or.inl (wd hw 26 rfl)) Via.refl C fun T39 A39 => ?_
  refine f_goto A39 d14_10 (pc' := 14) (by decide) (by decide) ?_
  exact f_retBN A39 hlk hret d14_14 (by decide) (0 : Int32) (by decide) (by decide) (by decide) K0 ⟨rfl, rfl⟩
theorem d17_0 : decode jdk_68_method_71_code 0 = .ok (.getstatic 18, 3) := by decide +kernel
theorem d17_3 : decode jdk_68_method_71_code 3 = .ok (.ifCond .eq 18, 3) := by decide +kernel
theorem d17_6 : decode jdk_68_method_71_code 6 = .ok (.aload_n 0, 1) := by decide +kernel
theorem d17_7 : decode jdk_68_method_71_code 7 = .ok (.getfield 22, 3) := by decide +kernel
theorem d17_10 : decode jdk_68_method_71_code 10 = .ok (.aload_n 1, 1) := by decide +kernel
theorem d17_11 : decode jdk_68_method_71_code 11 = .ok (.invokevirtual 40, 3) := by decide +kernel
theorem pd2 : parseMethodDescriptor "()B" = some ⟨[], some .byte⟩ := by decide +kernel
theorem d17_14 : decode jdk_68_method_71_code 14 = .ok (.if_icmp .eq 7, 3) := by decide +kernel
theorem d17_21 : decode jdk_68_method_71_code 21 = .ok (.return_, 1) := by decide +kernel
set_option maxRecDepth 65536 in
set_option maxHeartbeats 40000000 in
theorem m_infl (l : Launch) (Z : State) (a0 : Array Value) (hw : ∀ d ∈ tables_1, d.before a0 Z = true) (b v : Addr) (kb : ClassId) (cap : Nat) (cs : List Int32) (x t : Addr) (ds : List Int32) (zc : Int32) (O2 : Sta Z Z.heap "java/lang/String" "COMPACT_STRINGS" "Z" (.int zc)) (P5 : ¬ zc = 0) (h0 : Heap) (n0 : Nat) (ho : Old Z n0 h0) (B : SBd Z h0 b v kb cap cs) (F : Str Z h0 x t ds) (lat : ∀ c ∈ ds, ¬ (255 : Int32) < c) :
    CN l (⟨"java/lang/AbstractStringBuilder", "inflateIfNeededFor", "(Ljava/lang/String;)V"⟩ : MethodName) jdk_68_method_71_code 2 none [] ({ frames := 1, cells := 0, slots := 0, locals := 20 } : Room) Z n0 h0 #[(.ref b), (.ref x)] [] (fun r h => r = none ∧ h = h0) := by
  refine CN.walk (plainFor_of_name pn1) ho (L0 := #[.val (.ref b), .val (.ref x)]) (fun m => rfl) ?_
  intro pG e s m below meth cO T hlk hret hnm A0
  have K0 : Keep h0 h0 [] := Keep.refl _ _
  obtain ⟨E_, Fv_, Fc_, Fn_, V_, Ev_⟩ := id B
  obtain ⟨kb40, fv40, fc40, av40⟩ := F.openL lat
  refine f_getS A0 d17_0 (pc' := 3) rfl (host := "") (Or.inl (wd hw 59 rfl)) Via.refl O2 fun T41 A41 => ?_
  refine f_ifN A41 d17_3 ((if0 _ _).trans (feq P5).1) (pc' := 6) rfl ?_
  refine f_aloadN A41 d17_6 (pc' := 7) rfl rfl rfl ?_
  refine f_getF A41 d17_7 (pc' := 10) rfl (host := "") (Or.inl (wd hw 62 rfl)) Via.refl Fc_ fun T42 A42 => ?_
  refine f_aloadN A42 d17_10 (pc' := 11) rfl rfl rfl ?_
  refine f_callV A42 (a := x) d17_11 (pc' := 14) rfl (wd hw 101 rfl) (wd hw 80 rfl) (nfS A42 (wd hw 82 rfl)) (wd hw 82 rfl) (wd hw 81 rfl) (by decide) F.exa pd2 [] [(.int (0 : Int32))] rfl rfl rfl 1 (Nat.le_of_eq rfl) (CN.pay (W := 1) A42 (m_cod0 l Z a0 hw x zc O2 P5 h0 n0 A42.old fc40) (wd hw 83 rfl) (wd hw 2 rfl) (by decide) (by decide)) (kc := 0) (ks := 0) (by decide) (by decide) all0 (fun q => nomatch q) fun v43 T43 h43 L43 A43 K43 q43 => ?_
  obtain ⟨rfl, hh43⟩ := q43
  obtain rfl := hh43.symm
  show Wp pG e below _ T43 (mkF m 14 _ [(.int (0 : Int32)), (.int (0 : Int32))])
  refine f_icY A43 d17_14 (teq (by decide : (0 : Int32) = (0 : Int32))).1 (pc' := 21) (by decide) (by decide) ?_
  exact f_retN A43 hlk hret d17_21 (by decide) (by decide) K0 ⟨rfl, rfl⟩
theorem d18_0 : decode jdk_42_method_147_code 0 = .ok (.aload_n 0, 1) := by decide +kernel
theorem d18_1 : decode jdk_42_method_147_code 1 = .ok (.invokevirtual 335, 3) := by decide +kernel
theorem d18_4 : decode jdk_42_method_147_code 4 = .ok (.iload_n 3, 1) := by decide +kernel
theorem d18_5 : decode jdk_42_method_147_code 5 = .ok (.if_icmp .ne 23, 3) := by decide +kernel
theorem d18_8 : decode jdk_42_method_147_code 8 = .ok (.aload_n 0, 1) := by decide +kernel
theorem d18_9 : decode jdk_42_method_147_code 9 = .ok (.getfield 9, 3) := by decide +kernel
theorem d18_12 : decode jdk_42_method_147_code 12 = .ok (.iconst 0, 1) := by decide +kernel
theorem d18_13 : decode jdk_42_method_147_code 13 = .ok (.aload_n 1, 1) := by decide +kernel
theorem d18_14 : decode jdk_42_method_147_code 14 = .ok (.iload_n 2, 1) := by decide +kernel
theorem d18_15 : decode jdk_42_method_147_code 15 = .ok (.iload_n 3, 1) := by decide +kernel
theorem d18_16 : decode jdk_42_method_147_code 16 = .ok (.ishl, 1) := by decide +kernel
theorem d18_17 : decode jdk_42_method_147_code 17 = .ok (.aload_n 0, 1) := by decide +kernel
theorem d18_18 : decode jdk_42_method_147_code 18 = .ok (.getfield 9, 3) := by decide +kernel
theorem d18_21 : decode jdk_42_method_147_code 21 = .ok (.arraylength, 1) := by decide +kernel
theorem d18_22 : decode jdk_42_method_147_code 22 = .ok (.invokestatic 212, 3) := by decide +kernel
theorem d18_25 : decode jdk_42_method_147_code 25 = .ok (.goto 18, 3) := by decide +kernel
theorem d18_43 : decode jdk_42_method_147_code 43 = .ok (.return_, 1) := by decide +kernel
set_option maxRecDepth 65536 in
set_option maxHeartbeats 40000000 in
theorem m_getB (l : Launch) (Z : State) (a0 : Array Value) (hw : ∀ d ∈ tables_1, d.before a0 Z = true) (x t : Addr) (ds : List Int32) (v : Addr) (kb : ClassId) (cap : Nat) (cs : List Int32) (zc : Int32) (O2 : Sta Z Z.heap "java/lang/String" "COMPACT_STRINGS" "Z" (.int zc)) (P5 : ¬ zc = 0) (h0 : Heap) (n0 : Nat) (ho : Old Z n0 h0) (F : Str Z h0 x t ds) (lat : ∀ c ∈ ds, ¬ (255 : Int32) < c) (V : Arv Z h0 v kb .byte (Int32.ofNat cap) (pad cap cs) (.int 0)) (hcap : cs.length + ds.length ≤ cap) (hb : cap < 2147483648) (gv : n0 ≤ v) (ntv : t ≠ v) :
    CN l (⟨"java/lang/String", "getBytes", "([BIB)V"⟩ : MethodName) jdk_42_method_147_code 4 none [] ({ frames := 1, cells := 0, slots := 0, locals := 60 } : Room) Z n0 h0 #[(.ref x), (.ref v), (.int (Int32.ofNat cs.length)), (.int (0 : Int32))] [v] (fun r h => r = none ∧ Arv Z h v kb .byte (Int32.ofNat cap) (pad cap (cs ++ ds)) (.int 0)) := by
  refine CN.walk (plainFor_of_name pn0) ho (L0 := #[.val (.ref x), .val (.ref v), .val (.int (Int32.ofNat cs.length)), .val (.int (0 : Int32))]) (fun m => rfl) ?_
  intro pG e s m below meth cO T hlk hret hnm A0
  have K0 : Keep h0 h0 [v] := Keep.refl _ _
  obtain ⟨kb44, fv44, fc44, av44⟩ := F.openL lat
  refine f_aloadN A0 d18_0 (pc' := 1) rfl rfl rfl ?_
  refine f_callV A0 (a := x) d18_1 (pc' := 4) rfl (wd hw 79 rfl) (wd hw 80 rfl) (nfS A0 (wd hw 82 rfl)) (wd hw 82 rfl) (wd hw 81 rfl) (by decide) F.exa pd2 [] [] rfl rfl rfl 0 (Nat.le_of_eq rfl) (CN.pay (W := 0) A0 (m_cod0 l Z a0 hw x zc O2 P5 h0 n0 A0.old fc44) (wd hw 83 rfl) (wd hw 2 rfl) (by decide) (by decide)) (kc := 0) (ks := 0) (by decide) (by decide) all0 (fun q => nomatch q) fun v45 T45 h45 L45 A45 K45 q45 => ?_
  obtain ⟨rfl, hh45⟩ := q45
  obtain rfl := hh45.symm
  show Wp pG e below _ T45 (mkF m 4 _ [(.int (0 : Int32))])
  refine f_iloadN A45 d18_4 (pc' := 5) rfl rfl ?_
  refine f_icN A45 d18_5 (teq (by decide : (0 : Int32) = (0 : Int32))).2 (pc' := 8) rfl ?_
  refine f_aloadN A45 d18_8 (pc' := 9) rfl rfl rfl ?_
  refine f_getF A45 d18_9 (pc' := 12) rfl (host := "") (Or.inl (wd hw 28 rfl)) Via.refl fv44 fun T46 A46 => ?_
  refine f_iconst A46 d18_12 (pc' := 13) rfl 0 rfl ?_
  refine f_aloadN A46 d18_13 (pc' := 14) rfl rfl rfl ?_
  refine f_iloadN A46 d18_14 (pc' := 15) rfl rfl ?_
  refine f_iloadN A46 d18_15 (pc' := 16) rfl rfl ?_
  refine f_ishl A46 d18_16 (pc' := 17) rfl (Int32.ofNat cs.length) (shl0 _) ?_
  refine f_aloadN A46 d18_17 (pc' := 18) rfl rfl rfl ?_
  refine f_getF A46 d18_18 (pc' := 21) rfl (host := "") (Or.inl (wd hw 28 rfl)) Via.refl fv44 fun T47 A47 => ?_
  refine f_arraylength A47 d18_21 (pc' := 22) rfl av44 ?_
  refine f_arrcpy A47 0 d18_22 (pc' := 25) rfl (wd hw 107 rfl) (wd hw 110 rfl) (wd hw 108 rfl) (wd hw 109 rfl) av44 V (Or.inl ⟨rfl, rfl⟩) (by decide) (ofn_nn (by omega)) (ofn_nn (by omega)) (by rw [ofn_clamp (by omega)]; exact Nat.le_of_eq (Nat.zero_add _)) (by rw [ofn_clamp (by omega), ofn_clamp (by omega), ofn_clamp (by omega)]; exact hcap) (us := (ds.map fun c => Value.int (StrChars.lo8 c))) (by rw [ofn_clamp (by omega)]; exact (by simpa using (rng_get (vs := ds.map fun c => Value.int (StrChars.lo8 c)) (d := .int 0)).symm)) (by rw [ofn_clamp (by omega), ofn_clamp (by omega), pad_len (by omega)]; exact hcap) (vd' := (pad cap (cs ++ ds))) (by rw [ofn_clamp (by omega), ofn_clamp (by omega)]; exact pad_cpy hcap) gv (fun q => nomatch q) rfl (by decide) (Nat.le_of_eq rfl) (by decide) fun T48 h48 L48 A48 K48 V48 => ?_
  have Q49 : Keep h0 h48 [v] := K0.trans K48 (allS (Or.inl (List.mem_of_getElem? (i := 0) rfl)) all0)
  refine f_goto A48 d18_25 (pc' := 43) (by decide) (by decide) ?_
  exact f_retN A48 hlk hret d18_43 (by decide) (by decide) Q49 ⟨rfl, V48⟩
theorem d16_0 : decode jdk_68_method_73_code 0 = .ok (.aload_n 0, 1) := by decide +kernel
theorem d16_1 : decode jdk_68_method_73_code 1 = .ok (.aload_n 2, 1) := by decide +kernel
theorem d16_2 : decode jdk_68_method_73_code 2 = .ok (.invokevirtual 397, 3) := by decide +kernel
theorem pd3 : parseMethodDescriptor "(Ljava/lang/String;)V" = some ⟨[(.object "java/lang/String")], none⟩ := by decide +kernel
theorem d16_5 : decode jdk_68_method_73_code 5 = .ok (.aload_n 2, 1) := by decide +kernel
theorem d16_6 : decode jdk_68_method_73_code 6 = .ok (.aload_n 0, 1) := by decide +kernel
theorem d16_7 : decode jdk_68_method_73_code 7 = .ok (.getfield 15, 3) := by decide +kernel
theorem d16_10 : decode jdk_68_method_73_code 10 = .ok (.iload_n 1, 1) := by decide +kernel
theorem d16_11 : decode jdk_68_method_73_code 11 = .ok (.aload_n 0, 1) := by decide +kernel
theorem d16_12 : decode jdk_68_method_73_code 12 = .ok (.getfield 22, 3) := by decide +kernel
theorem d16_15 : decode jdk_68_method_73_code 15 = .ok (.invokevirtual 399, 3) := by decide +kernel
theorem pd4 : parseMethodDescriptor "([BIB)V" = some ⟨[(.array .byte), .int, .byte], none⟩ := by decide +kernel
theorem d16_18 : decode jdk_68_method_73_code 18 = .ok (.return_, 1) := by decide +kernel
set_option maxRecDepth 65536 in
set_option maxHeartbeats 40000000 in
theorem m_putS (l : Launch) (Z : State) (a0 : Array Value) (hw : ∀ d ∈ tables_1, d.before a0 Z = true) (b v : Addr) (kb : ClassId) (cap : Nat) (cs : List Int32) (x t : Addr) (ds : List Int32) (zc : Int32) (O2 : Sta Z Z.heap "java/lang/String" "COMPACT_STRINGS" "Z" (.int zc)) (P5 : ¬ zc = 0) (h0 : Heap) (n0 : Nat) (ho : Old Z n0 h0) (B : SBd Z h0 b v kb cap cs) (F : Str Z h0 x t ds) (lat : ∀ c ∈ ds, ¬ (255 : Int32) < c) (hcap : cs.length + ds.length ≤ cap) (hb : cap < 2147483648) (gb : n0 ≤ b) (gv : n0 ≤ v) (nbv : b ≠ v) (ntv : t ≠ v) :
    CN l (⟨"java/lang/AbstractStringBuilder", "putStringAt", "(ILjava/lang/String;)V"⟩ : MethodName) jdk_68_method_73_code 3 none [] ({ frames := 2, cells := 0, slots := 0, locals := 90 } : Room) Z n0 h0 #[(.ref b), (.int (Int32.ofNat cs.length)), (.ref x)] [v] (fun r h => r = none ∧ Arv Z h v kb .byte (Int32.ofNat cap) (pad cap (cs ++ ds)) (.int 0)) := by
  refine CN.walk (plainFor_of_name pn1) ho (L0 := #[.val (.ref b), .val (.int (Int32.ofNat cs.length)), .val (.ref x)]) (fun m => rfl) ?_
  intro pG e s m below meth cO T hlk hret hnm A0
  have K0 : Keep h0 h0 [v] := Keep.refl _ _
  obtain ⟨E_, Fv_, Fc_, Fn_, V_, Ev_⟩ := id B
  obtain ⟨kb50, fv50, fc50, av50⟩ := F.openL lat
  refine f_aloadN A0 d16_0 (pc' := 1) rfl rfl rfl ?_
  refine f_aloadN A0 d16_1 (pc' := 2) rfl rfl rfl ?_
  refine f_callP A0 (a := b) d16_2 (pc' := 5) rfl (wd hw 96 rfl) (wd hw 97 rfl) (wd hw 98 rfl) (wd hw 99 rfl) (wd hw 100 rfl) (by decide) E_ pd3 [(.ref x)] [] rfl rfl rfl 0 (Nat.le_of_eq rfl) (CN.pay (W := 0) A0 (m_infl l Z a0 hw b v kb cap cs x t ds zc O2 P5 h0 n0 A0.old B F lat) (wd hw 100 rfl) (wd hw 56 rfl) (by decide) (by decide)) (kc := 0) (ks := 0) (by decide) (by decide) all0 (fun q => nomatch q) fun v51 T51 h51 L51 A51 K51 q51 => ?_
  obtain ⟨rfl, hh51⟩ := q51
  obtain rfl := hh51.symm
  show Wp pG e below _ T51 (mkF m 5 _ [])
  refine f_aloadN A51 d16_5 (pc' := 6) rfl rfl rfl ?_
  refine f_aloadN A51 d16_6 (pc' := 7) rfl rfl rfl ?_
  refine f_getF A51 d16_7 (pc' := 10) rfl (host := "") (Or.inl (wd hw 60 rfl)) Via.refl Fv_ fun T52 A52 => ?_
  refine f_iloadN A52 d16_10 (pc' := 11) rfl rfl ?_
  refine f_aloadN A52 d16_11 (pc' := 12) rfl rfl rfl ?_
  refine f_getF A52 d16_12 (pc' := 15) rfl (host := "") (Or.inl (wd hw 62 rfl)) Via.refl Fc_ fun T53 A53 => ?_
  refine f_callV A53 (a := x) d16_15 (pc' := 18) rfl (wd hw 102 rfl) (wd hw 103 rfl) (nfS A53 (wd hw 105 rfl)) (wd hw 105 rfl) (wd hw 104 rfl) (by decide) F.exa pd4 [(.ref v), (.int (Int32.ofNat cs.length)), (.int (0 : Int32))] [] rfl rfl rfl 0 (Nat.le_of_eq rfl) (CN.pay (W := 0) A53 (m_getB l Z a0 hw x t ds v kb cap cs zc O2 P5 h0 n0 A53.old F lat V_ hcap hb gv ntv) (wd hw 106 rfl) (wd hw 2 rfl) (by decide) (by decide)) (kc := 0) (ks := 0) (by decide) (by decide) (allS gv all0) (fun q => nomatch q) fun v54 T54 h54 L54 A54 K54 q54 => ?_
  have Q55 : Keep h0 h54 [v] := K0.trans K54 (allS (Or.inl (List.mem_of_getElem? (i := 0) rfl)) all0)
  obtain ⟨rfl, V54⟩ := q54
  show Wp pG e below _ T54 (mkF m 18 _ [])
  exact f_retN A54 hlk hret d16_18 (by decide) (by decide) Q55 ⟨rfl, V54⟩
theorem d15_0 : decode jdk_68_method_9_code 0 = .ok (.aload_n 0, 1) := by decide +kernel
theorem d15_1 : decode jdk_68_method_9_code 1 = .ok (.getfield 15, 3) := by decide +kernel
theorem d15_4 : decode jdk_68_method_9_code 4 = .ok (.arraylength, 1) := by decide +kernel
theorem d15_5 : decode jdk_68_method_9_code 5 = .ok (.aload_n 0, 1) := by decide +kernel
theorem d15_6 : decode jdk_68_method_9_code 6 = .ok (.getfield 22, 3) := by decide +kernel
theorem d15_9 : decode jdk_68_method_9_code 9 = .ok (.ishr, 1) := by decide +kernel
theorem d15_10 : decode jdk_68_method_9_code 10 = .ok (.istore_n 2, 1) := by decide +kernel
theorem d15_11 : decode jdk_68_method_9_code 11 = .ok (.iload_n 1, 1) := by decide +kernel
theorem d15_12 : decode jdk_68_method_9_code 12 = .ok (.iload_n 2, 1) := by decide +kernel
theorem d15_13 : decode jdk_68_method_9_code 13 = .ok (.isub, 1) := by decide +kernel
theorem d15_14 : decode jdk_68_method_9_code 14 = .ok (.ifCond .le 24, 3) := by decide +kernel
theorem d15_38 : decode jdk_68_method_9_code 38 = .ok (.return_, 1) := by decide +kernel
set_option maxRecDepth 65536 in
set_option maxHeartbeats 40000000 in
theorem m_ens (l : Launch) (Z : State) (a0 : Array Value) (hw : ∀ d ∈ tables_1, d.before a0 Z = true) (b v : Addr) (kb : ClassId) (cap : Nat) (cs : List Int32) (mn : Nat) (h0 : Heap) (n0 : Nat) (ho : Old Z n0 h0) (B : SBd Z h0 b v kb cap cs) (hm : mn ≤ cap) (hb : cap < 2147483648) :
    CN l (⟨"java/lang/AbstractStringBuilder", "ensureCapacityInternal", "(I)V"⟩ : MethodName) jdk_68_method_9_code 3 none [] ({ frames := 0, cells := 0, slots := 0, locals := 0 } : Room) Z n0 h0 #[(.ref b), (.int (Int32.ofNat mn))] [] (fun r h => r = none ∧ h = h0) := by
  refine CN.walk (plainFor_of_name pn1) ho (L0 := #[.val (.ref b), .val (.int (Int32.ofNat mn)), .unset]) (fun m => rfl) ?_
  intro pG e s m below meth cO T hlk hret hnm A0
  have K0 : Keep h0 h0 [] := Keep.refl _ _
  obtain ⟨E_, Fv_, Fc_, Fn_, V_, Ev_⟩ := id B
  refine f_aloadN A0 d15_0 (pc' := 1) rfl rfl rfl ?_
  refine f_getF A0 d15_1 (pc' := 4) rfl (host := "") (Or.inl (wd hw 60 rfl)) Via.refl Fv_ fun T56 A56 => ?_
  refine f_arraylength A56 d15_4 (pc' := 5) rfl V_ ?_
  refine f_aloadN A56 d15_5 (pc' := 6) rfl rfl rfl ?_
  refine f_getF A56 d15_6 (pc' := 9) rfl (host := "") (Or.inl (wd hw 62 rfl)) Via.refl Fc_ fun T57 A57 => ?_
  refine f_ishr A57 d15_9 (pc' := 10) rfl (Int32.ofNat cap) (StrChars.shr0 _) ?_
  refine f_istoreN A57 d15_10 (pc' := 11) rfl (L' := #[.val (.ref b), .val (.int (Int32.ofNat mn)), .val (.int (Int32.ofNat cap))]) rfl ?_
  refine f_iloadN A57 d15_11 (pc' := 12) rfl rfl ?_
  refine f_iloadN A57 d15_12 (pc' := 13) rfl rfl ?_
  refine f_isub A57 d15_13 (pc' := 14) rfl ((Int32.ofNat mn) - (Int32.ofNat cap)) rfl ?_
  refine f_ifY A57 d15_14 ((if0 _ _).trans (flt (ofn_le0 hm hb)).2.2.2) (pc' := 38) (by decide) (by decide) ?_
  exact f_retN A57 hlk hret d15_38 (by decide) (by decide) K0 ⟨rfl, rfl⟩
theorem d12_0 : decode jdk_68_method_22_code 0 = .ok (.aload_n 1, 1) := by decide +kernel
theorem d12_1 : decode jdk_68_method_22_code 1 = .ok (.ifnonnull 8, 3) := by decide +kernel
theorem d12_9 : decode jdk_68_method_22_code 9 = .ok (.aload_n 1, 1) := by decide +kernel
theorem d12_10 : decode jdk_68_method_22_code 10 = .ok (.invokevirtual 32, 3) := by decide +kernel
theorem pd5 : parseMethodDescriptor "()I" = some ⟨[], some .int⟩ := by decide +kernel
theorem d12_13 : decode jdk_68_method_22_code 13 = .ok (.istore_n 2, 1) := by decide +kernel
theorem d12_14 : decode jdk_68_method_22_code 14 = .ok (.aload_n 0, 1) := by decide +kernel
theorem d12_15 : decode jdk_68_method_22_code 15 = .ok (.aload_n 0, 1) := by decide +kernel
theorem d12_16 : decode jdk_68_method_22_code 16 = .ok (.getfield 79, 3) := by decide +kernel
theorem d12_19 : decode jdk_68_method_22_code 19 = .ok (.iload_n 2, 1) := by decide +kernel
theorem d12_20 : decode jdk_68_method_22_code 20 = .ok (.iadd, 1) := by decide +kernel
theorem d12_21 : decode jdk_68_method_22_code 21 = .ok (.invokevirtual 100, 3) := by decide +kernel
theorem d12_24 : decode jdk_68_method_22_code 24 = .ok (.aload_n 0, 1) := by decide +kernel
theorem d12_25 : decode jdk_68_method_22_code 25 = .ok (.aload_n 0, 1) := by decide +kernel
theorem d12_26 : decode jdk_68_method_22_code 26 = .ok (.getfield 79, 3) := by decide +kernel
theorem d12_29 : decode jdk_68_method_22_code 29 = .ok (.aload_n 1, 1) := by decide +kernel
theorem d12_30 : decode jdk_68_method_22_code 30 = .ok (.invokevirtual 208, 3) := by decide +kernel
theorem pd6 : parseMethodDescriptor "(ILjava/lang/String;)V" = some ⟨[.int, (.object "java/lang/String")], none⟩ := by decide +kernel
theorem d12_33 : decode jdk_68_method_22_code 33 = .ok (.aload_n 0, 1) := by decide +kernel
theorem d12_34 : decode jdk_68_method_22_code 34 = .ok (.dup, 1) := by decide +kernel
theorem d12_35 : decode jdk_68_method_22_code 35 = .ok (.getfield 79, 3) := by decide +kernel
theorem d12_38 : decode jdk_68_method_22_code 38 = .ok (.iload_n 2, 1) := by decide +kernel
theorem d12_39 : decode jdk_68_method_22_code 39 = .ok (.iadd, 1) := by decide +kernel
theorem d12_40 : decode jdk_68_method_22_code 40 = .ok (.putfield 79, 3) := by decide +kernel
theorem d12_43 : decode jdk_68_method_22_code 43 = .ok (.aload_n 0, 1) := by decide +kernel
theorem d12_44 : decode jdk_68_method_22_code 44 = .ok (.areturn, 1) := by decide +kernel
set_option maxRecDepth 65536 in
set_option maxHeartbeats 40000000 in
theorem m_asbA (l : Launch) (Z : State) (a0 : Array Value) (hw : ∀ d ∈ tables_1, d.before a0 Z = true) (b v : Addr) (kb : ClassId) (cap : Nat) (cs : List Int32) (x t : Addr) (ds : List Int32) (zc : Int32) (O2 : Sta Z Z.heap "java/lang/String" "COMPACT_STRINGS" "Z" (.int zc)) (P5 : ¬ zc = 0) (h0 : Heap) (n0 : Nat) (ho : Old Z n0 h0) (B : SBd Z h0 b v kb cap cs) (F : Str Z h0 x t ds) (lat : ∀ c ∈ ds, ¬ (255 : Int32) < c) (hcap : cs.length + ds.length ≤ cap) (hb : cap < 2147483648) (gb : n0 ≤ b) (gv : n0 ≤ v) (nbv : b ≠ v) (ntv : t ≠ v) :
    CN l (⟨"java/lang/AbstractStringBuilder", "append", "(Ljava/lang/String;)Ljava/lang/AbstractStringBuilder;"⟩ : MethodName) jdk_68_method_22_code 3 (some (.object "java/lang/AbstractStringBuilder")) [] ({ frames := 4, cells := 0, slots := 0, locals := 120 } : Room) Z n0 h0 #[(.ref b), (.ref x)] [b, v] (fun r h => r = some (.ref b) ∧ SBd Z h b v kb cap (cs ++ ds)) := by
  refine CN.walk (plainFor_of_name pn1) ho (L0 := #[.val (.ref b), .val (.ref x), .unset]) (fun m => rfl) ?_
  intro pG e s m below meth cO T hlk hret hnm A0
  have K0 : Keep h0 h0 [b, v] := Keep.refl _ _
  obtain ⟨E_, Fv_, Fc_, Fn_, V_, Ev_⟩ := id B
  obtain ⟨kb58, fv58, fc58, av58⟩ := F.openL lat
  refine f_aloadN A0 d12_0 (pc' := 1) rfl rfl rfl ?_
  refine f_nonY A0 d12_1 (pc' := 9) (by decide) (by decide) ?_
  refine f_aloadN A0 d12_9 (pc' := 10) rfl rfl rfl ?_
  refine f_callV A0 (a := x) d12_10 (pc' := 13) rfl (wd hw 74 rfl) (wd hw 75 rfl) (nfS A0 (wd hw 77 rfl)) (wd hw 77 rfl) (wd hw 76 rfl) (by decide) F.exa pd5 [] [] rfl rfl rfl 0 (Nat.le_of_eq rfl) (payLen (W := 0) A0 hw (wd hw 1 rfl) F O2 P5 (by decide) (by decide)) (kc := 0) (ks := 0) (by decide) (by decide) all0 (fun q => nomatch q) fun v59 T59 h59 L59 A59 K59 q59 => ?_
  obtain ⟨rfl, hh59⟩ := q59
  obtain rfl := hh59.symm
  show Wp pG e below _ T59 (mkF m 13 _ [(.int (Int32.ofNat ds.length))])
  refine f_istoreN A59 d12_13 (pc' := 14) rfl (L' := #[.val (.ref b), .val (.ref x), .val (.int (Int32.ofNat ds.length))]) rfl ?_
  refine f_aloadN A59 d12_14 (pc' := 15) rfl rfl rfl ?_
  refine f_aloadN A59 d12_15 (pc' := 16) rfl rfl rfl ?_
  refine f_getF A59 d12_16 (pc' := 19) rfl (host := "") (Or.inl (wd hw 84 rfl)) Via.refl Fn_ fun T60 A60 => ?_
  refine f_iloadN A60 d12_19 (pc' := 20) rfl rfl ?_
  refine f_iadd A60 d12_20 (pc' := 21) rfl (Int32.ofNat (cs.length + ds.length)) (ofn_add (by omega)) ?_
  refine f_callP A60 (a := b) d12_21 (pc' := 24) rfl (wd hw 86 rfl) (wd hw 87 rfl) (wd hw 88 rfl) (wd hw 89 rfl) (wd hw 90 rfl) (by decide) E_ pd1 [(.int (Int32.ofNat (cs.length + ds.length)))] [] rfl rfl rfl 0 (Nat.le_of_eq rfl) (CN.pay (W := 0) A60 (m_ens l Z a0 hw b v kb cap cs _ h0 n0 A60.old B hcap hb) (wd hw 90 rfl) (wd hw 56 rfl) (by decide) (by decide)) (kc := 0) (ks := 0) (by decide) (by decide) all0 (fun q => nomatch q) fun v61 T61 h61 L61 A61 K61 q61 => ?_
  obtain ⟨rfl, hh61⟩ := q61
  obtain rfl := hh61.symm
  show Wp pG e below _ T61 (mkF m 24 _ [])
  refine f_aloadN A61 d12_24 (pc' := 25) rfl rfl rfl ?_
  refine f_aloadN A61 d12_25 (pc' := 26) rfl rfl rfl ?_
  refine f_getF A61 d12_26 (pc' := 29) rfl (host := "") (Or.inl (wd hw 84 rfl)) Via.refl Fn_ fun T62 A62 => ?_
  refine f_aloadN A62 d12_29 (pc' := 30) rfl rfl rfl ?_
  refine f_callP A62 (a := b) d12_30 (pc' := 33) rfl (wd hw 91 rfl) (wd hw 92 rfl) (wd hw 93 rfl) (wd hw 94 rfl) (wd hw 95 rfl) (by decide) E_ pd6 [(.int (Int32.ofNat cs.length)), (.ref x)] [] rfl rfl rfl 0 (Nat.le_of_eq rfl) (CN.pay (W := 0) A62 (m_putS l Z a0 hw b v kb cap cs x t ds zc O2 P5 h0 n0 A62.old B F lat hcap hb gb gv nbv ntv) (wd hw 95 rfl) (wd hw 56 rfl) (by decide) (by decide)) (kc := 0) (ks := 0) (by decide) (by decide) (allS gv all0) (fun q => nomatch q) fun v63 T63 h63 L63 A63 K63 q63 => ?_
  have Q64 : Keep h0 h63 [b, v] := K0.trans K63 (allS (Or.inl (List.mem_of_getElem? (i := 1) rfl)) all0)
  obtain ⟨rfl, V63⟩ := q63
  show Wp pG e below _ T63 (mkF m 33 _ [])
  refine f_aloadN A63 d12_33 (pc' := 34) rfl rfl rfl ?_
  refine f_dup A63 d12_34 (pc' := 35) rfl rfl ?_
  have c66 := (Fn_.keep K63 (ninS nbv nin0))
  refine f_getF A63 d12_35 (pc' := 38) rfl (host := "") (Or.inl (wd hw 84 rfl)) Via.refl c66 fun T65 A65 => ?_
  refine f_iloadN A65 d12_38 (pc' := 39) rfl rfl ?_
  refine f_iadd A65 d12_39 (pc' := 40) rfl (Int32.ofNat (cs ++ ds).length) (by rw [ofn_add (by omega), List.length_append]) ?_
  have c68 := (E_.keep K63)
  refine f_putF A65 (.int (Int32.ofNat (cs ++ ds).length)) d12_40 (pc' := 43) rfl (wd hw 84 rfl) Via.refl c66 c68 (Or.inl (wd hw 85 rfl)) (wd hw 47 rfl) (ty := .int) (by decide) rfl rfl gb (fun q => nomatch q) fun T67 h67 A67 W67 K67 X67 F67 => ?_
  have c69 := (Fv_.keep K63 (ninS nbv nin0))
  have c70 := (Fc_.keep K63 (ninS nbv nin0))
  have Q71 : Keep h0 h67 [b, v] := Q64.trans K67 (allS (Or.inl (List.mem_of_getElem? (i := 0) rfl)) all0)
  refine f_aloadN A67 d12_43 (pc' := 44) rfl rfl rfl ?_
  have c72 := (V63.keep K67 (ninS (Ne.symm nbv) nin0))
  have c73 := ((Ev_.keep K63).keep K67)
  exact f_retRN A67 hlk hret d12_44 rfl rfl (by decide) (by decide) Q71 ⟨rfl, X67, (c69.other W67 (Or.inr (slot_ne (Or.inl (wd hw 61 rfl)) (Or.inl (wd hw 85 rfl)) (by decide) (t := (.array .byte)) (t' := .int) (by decide) (by decide)))), (c70.other W67 (Or.inr (slot_ne (Or.inl (wd hw 63 rfl)) (Or.inl (wd hw 85 rfl)) (by decide) (t := .byte) (t' := .int) (by decide) (by decide)))), F67, c72, c73⟩
theorem d11_0 : decode jdk_67_method_7_code 0 = .ok (.aload_n 0, 1) := by decide +kernel
theorem d11_1 : decode jdk_67_method_7_code 1 = .ok (.aload_n 1, 1) := by decide +kernel
theorem d11_2 : decode jdk_67_method_7_code 2 = .ok (.invokespecial 29, 3) := by decide +kernel
theorem pd7 : parseMethodDescriptor "(Ljava/lang/String;)Ljava/lang/AbstractStringBuilder;" = some ⟨[(.object "java/lang/String")], some (.object "java/lang/AbstractStringBuilder")⟩ := by decide +kernel
theorem d11_5 : decode jdk_67_method_7_code 5 = .ok (.pop, 1) := by decide +kernel
theorem d11_6 : decode jdk_67_method_7_code 6 = .ok (.aload_n 0, 1) := by decide +kernel
theorem d11_7 : decode jdk_67_method_7_code 7 = .ok (.areturn, 1) := by decide +kernel
set_option maxRecDepth 65536 in
set_option maxHeartbeats 40000000 in
theorem m_sbA (l : Launch) (Z : State) (a0 : Array Value) (hw : ∀ d ∈ tables_1, d.before a0 Z = true) (b v : Addr) (kb : ClassId) (cap : Nat) (cs : List Int32) (x t : Addr) (ds : List Int32) (zc : Int32) (O2 : Sta Z Z.heap "java/lang/String" "COMPACT_STRINGS" "Z" (.int zc)) (P5 : ¬ zc = 0) (h0 : Heap) (n0 : Nat) (ho : Old Z n0 h0) (B : SBd Z h0 b v kb cap cs) (F : Str Z h0 x t ds) (lat : ∀ c ∈ ds, ¬ (255 : Int32) < c) (hcap : cs.length + ds.length ≤ cap) (hb : cap < 2147483648) (gb : n0 ≤ b) (gv : n0 ≤ v) (nbv : b ≠ v) (ntv : t ≠ v) :
    CN l (⟨"java/lang/StringBuilder", "append", "(Ljava/lang/String;)Ljava/lang/StringBuilder;"⟩ : MethodName) jdk_67_method_7_code 2 (some (.object "java/lang/StringBuilder")) [] ({ frames := 5, cells := 0, slots := 0, locals := 140 } : Room) Z n0 h0 #[(.ref b), (.ref x)] [b, v] (fun r h => r = some (.ref b) ∧ SBd Z h b v kb cap (cs ++ ds)) := by
  refine CN.walk (plainFor_of_name pn2) ho (L0 := #[.val (.ref b), .val (.ref x)]) (fun m => rfl) ?_
  intro pG e s m below meth cO T hlk hret hnm A0
  have K0 : Keep h0 h0 [b, v] := Keep.refl _ _
  refine f_aloadN A0 d11_0 (pc' := 1) rfl rfl rfl ?_
  refine f_aloadN A0 d11_1 (pc' := 2) rfl rfl rfl ?_
  refine f_callU A0 (a := b) d11_2 (pc' := 5) rfl (wd hw 69 rfl) (nfOf (wd hw 89 rfl) rfl) (by decide) (wd hw 70 rfl) (wd hw 71 rfl) (wd hw 73 rfl) (by decide) B.1 pd7 [(.ref x)] [] rfl rfl rfl 0 (Nat.le_of_eq rfl) (CN.pay (W := 0) A0 (m_asbA l Z a0 hw b v kb cap cs x t ds zc O2 P5 h0 n0 A0.old B F lat hcap hb gb gv nbv ntv) (wd hw 73 rfl) (wd hw 56 rfl) (by decide) (by decide)) (kc := 0) (ks := 0) (by decide) (by decide) (allS gb (allS gv all0)) (fun q => nomatch q) fun v74 T74 h74 L74 A74 K74 q74 => ?_
  have Q75 : Keep h0 h74 [b, v] := K0.trans K74 (allS (Or.inl (List.mem_of_getElem? (i := 0) rfl)) (allS (Or.inl (List.mem_of_getElem? (i := 1) rfl)) all0))
  obtain ⟨rfl, B2⟩ := q74
  show Wp pG e below _ T74 (mkF m 5 _ [(.ref b)])
  refine f_pop A74 d11_5 (pc' := 6) rfl rfl ?_
  refine f_aloadN A74 d11_6 (pc' := 7) rfl rfl rfl ?_
  exact f_retRN A74 hlk hret d11_7 rfl rfl (by decide) (by decide) Q75 ⟨rfl, B2⟩
theorem d33_0 : decode jdk_29_method_69_code 0 = .ok (.iload_n 0, 1) := by decide +kernel
theorem d33_1 : decode jdk_29_method_69_code 1 = .ok (.iload_n 1, 1) := by decide +kernel
theorem d33_2 : decode jdk_29_method_69_code 2 = .ok (.if_icmp .gt 7, 3) := by decide +kernel
theorem d33_9 : decode jdk_29_method_69_code 9 = .ok (.iload_n 1, 1) := by decide +kernel
theorem d33_10 : decode jdk_29_method_69_code 10 = .ok (.ireturn, 1) := by decide +kernel
theorem d33_5 : decode jdk_29_method_69_code 5 = .ok (.iload_n 0, 1) := by decide +kernel
theorem d33_6 : decode jdk_29_method_69_code 6 = .ok (.goto 4, 3) := by decide +kernel
set_option maxRecDepth 65536 in
set_option maxHeartbeats 40000000 in
theorem m_min (l : Launch) (Z : State) (a0 : Array Value) (hw : ∀ d ∈ tables_1, d.before a0 Z = true) (a b : Int32) (h0 : Heap) (n0 : Nat) (ho : Old Z n0 h0)  :
    CN l (⟨"java/lang/Math", "min", "(II)I"⟩ : MethodName) jdk_29_method_69_code 2 (some .int) [] ({ frames := 0, cells := 0, slots := 0, locals := 0 } : Room) Z n0 h0 #[(.int a), (.int b)] [] (fun v h => v = some (.int (if b < a then b else a)) ∧ h = h0) := by
  refine CN.walk (Jvm.Free.JP.mathPlain rfl (by decide +kernel)) ho (L0 := #[.val (.int a), .val (.int b)]) (fun m => rfl) ?_
  intro pG e s m below meth cO T hlk hret hnm A0
  have K0 : Keep h0 h0 [] := Keep.refl _ _
  refine f_iloadN A0 d33_0 (pc' := 1) rfl rfl ?_
  refine f_iloadN A0 d33_1 (pc' := 2) rfl rfl ?_
  by_cases q : b < a
  · refine f_icY A0 d33_2 (tlt q).2.2.1 (pc' := 9) (by decide) (by decide) ?_
    refine f_iloadN A0 d33_9 (pc' := 10) rfl rfl ?_
    exact f_retIN A0 hlk hret d33_10 (by decide) (by decide) K0 ⟨by rw [if_pos q], rfl⟩
  · refine f_icN A0 d33_2 (flt q).2.2.1 (pc' := 5) rfl ?_
    refine f_iloadN A0 d33_5 (pc' := 6) rfl rfl ?_
    refine f_goto A0 d33_6 (pc' := 10) (by decide) (by decide) ?_
    exact f_retIN A0 hlk hret d33_10 (by decide) (by decide) K0 ⟨by rw [if_neg q], rfl⟩
theorem pn3 : plainName "java/util/Arrays" = true := by first | (simp [plainName, overriddenIn]; done) | decide +kernel
theorem d32_0 : decode jdk_65_method_131_code 0 = .ok (.iload_n 1, 1) := by decide +kernel
theorem d32_1 : decode jdk_65_method_131_code 1 = .ok (.iload_n 0, 1) := by decide +kernel
theorem d32_2 : decode jdk_65_method_131_code 2 = .ok (.if_icmp .ge 35, 3) := by decide +kernel
theorem d32_37 : decode jdk_65_method_131_code 37 = .ok (.return_, 1) := by decide +kernel
set_option maxRecDepth 65536 in
set_option maxHeartbeats 40000000 in
theorem m_chkL (l : Launch) (Z : State) (a0 : Array Value) (hw : ∀ d ∈ tables_1, d.before a0 Z = true) (n : Nat) (h0 : Heap) (n0 : Nat) (ho : Old Z n0 h0) (hn : n < 100000) :
    CN l (⟨"java/util/Arrays", "checkLength", "(II)V"⟩ : MethodName) jdk_65_method_131_code 2 none [] ({ frames := 0, cells := 0, slots := 0, locals := 0 } : Room) Z n0 h0 #[(.int (0 : Int32)), (.int (Int32.ofNat n))] [] (fun r h => r = none ∧ h = h0) := by
  refine CN.walk (plainFor_of_name pn3) ho (L0 := #[.val (.int (0 : Int32)), .val (.int (Int32.ofNat n))]) (fun m => rfl) ?_
  intro pG e s m below meth cO T hlk hret hnm A0
  have K0 : Keep h0 h0 [] := Keep.refl _ _
  refine f_iloadN A0 d32_0 (pc' := 1) rfl rfl ?_
  refine f_iloadN A0 d32_1 (pc' := 2) rfl rfl ?_
  refine f_icY A0 d32_2 (flt (ofn_nn (by omega))).2.1 (pc' := 37) (by decide) (by decide) ?_
  exact f_retN A0 hlk hret d32_37 (by decide) (by decide) K0 ⟨rfl, rfl⟩
theorem d31_0 : decode jdk_65_method_133_code 0 = .ok (.iload_n 1, 1) := by decide +kernel
theorem d31_1 : decode jdk_65_method_133_code 1 = .ok (.iload_n 2, 1) := by decide +kernel
theorem d31_2 : decode jdk_65_method_133_code 2 = .ok (.invokestatic 343, 3) := by decide +kernel
theorem pd8 : parseMethodDescriptor "(II)V" = some ⟨[.int, .int], none⟩ := by decide +kernel
theorem d31_5 : decode jdk_65_method_133_code 5 = .ok (.iload_n 2, 1) := by decide +kernel
theorem d31_6 : decode jdk_65_method_133_code 6 = .ok (.iload_n 1, 1) := by decide +kernel
theorem d31_7 : decode jdk_65_method_133_code 7 = .ok (.isub, 1) := by decide +kernel
theorem d31_8 : decode jdk_65_method_133_code 8 = .ok (.istore_n 3, 1) := by decide +kernel
theorem d31_9 : decode jdk_65_method_133_code 9 = .ok (.iload_n 3, 1) := by decide +kernel
theorem d31_10 : decode jdk_65_method_133_code 10 = .ok (.newarray .byte, 2) := by decide +kernel
theorem d31_12 : decode jdk_65_method_133_code 12 = .ok (.astore 4, 2) := by decide +kernel
theorem d31_14 : decode jdk_65_method_133_code 14 = .ok (.aload_n 0, 1) := by decide +kernel
theorem d31_15 : decode jdk_65_method_133_code 15 = .ok (.iload_n 1, 1) := by decide +kernel
theorem d31_16 : decode jdk_65_method_133_code 16 = .ok (.aload 4, 2) := by decide +kernel
theorem d31_18 : decode jdk_65_method_133_code 18 = .ok (.iconst 0, 1) := by decide +kernel
theorem d31_19 : decode jdk_65_method_133_code 19 = .ok (.aload_n 0, 1) := by decide +kernel
theorem d31_20 : decode jdk_65_method_133_code 20 = .ok (.arraylength, 1) := by decide +kernel
theorem d31_21 : decode jdk_65_method_133_code 21 = .ok (.iload_n 1, 1) := by decide +kernel
theorem d31_22 : decode jdk_65_method_133_code 22 = .ok (.isub, 1) := by decide +kernel
theorem d31_23 : decode jdk_65_method_133_code 23 = .ok (.iload_n 3, 1) := by decide +kernel
theorem d31_24 : decode jdk_65_method_133_code 24 = .ok (.invokestatic 304, 3) := by decide +kernel
theorem pd9 : parseMethodDescriptor "(II)I" = some ⟨[.int, .int], some .int⟩ := by decide +kernel
theorem d31_27 : decode jdk_65_method_133_code 27 = .ok (.invokestatic 150, 3) := by decide +kernel
theorem d31_30 : decode jdk_65_method_133_code 30 = .ok (.aload 4, 2) := by decide +kernel
theorem d31_32 : decode jdk_65_method_133_code 32 = .ok (.areturn, 1) := by decide +kernel
set_option maxRecDepth 65536 in
set_option maxHeartbeats 40000000 in
theorem m_corb (l : Launch) (Z : State) (a0 : Array Value) (hw : ∀ d ∈ tables_1, d.before a0 Z = true) (v : Addr) (kb : ClassId) (cap : Nat) (cs : List Int32) (h0 : Heap) (n0 : Nat) (ho : Old Z n0 h0) (V : Arv Z h0 v kb .byte (Int32.ofNat cap) (pad cap cs) (.int 0)) (hlt : cs.length < cap) (hb : cap < 100000) (hcl : cs.length ≤ 64) :
    CN l (⟨"java/util/Arrays", "copyOfRangeByte", "([BII)[B"⟩ : MethodName) jdk_65_method_133_code 5 (some (.array .byte)) [] ({ frames := 1, cells := 1, slots := 64, locals := 60 } : Room) Z n0 h0 #[(.ref v), (.int (0 : Int32)), (.int (Int32.ofNat cs.length))] [] (fun r h => ∃ (t : Addr) (kt : ClassId), r = some (.ref t) ∧ h0.size ≤ t ∧ Arv Z h t kt .byte (Int32.ofNat cs.length) (cs.map fun c => Value.int (StrChars.lo8 c)) (.int 0)) := by
  refine CN.walk (plainFor_of_name pn3) ho (L0 := #[.val (.ref v), .val (.int (0 : Int32)), .val (.int (Int32.ofNat cs.length)), .unset, .unset]) (fun m => rfl) ?_
  intro pG e s m below meth cO T hlk hret hnm A0
  have K0 : Keep h0 h0 [] := Keep.refl _ _
  refine f_iloadN A0 d31_0 (pc' := 1) rfl rfl ?_
  refine f_iloadN A0 d31_1 (pc' := 2) rfl rfl ?_
  refine f_callS A0 d31_2 (pc' := 5) rfl (wd hw 173 rfl) (wd hw 174 rfl) (wd hw 168 rfl) (wd hw 175 rfl) (by decide) pd8 [(.int (0 : Int32)), (.int (Int32.ofNat cs.length))] [] rfl rfl rfl 0 (Nat.le_of_eq rfl) (CN.pay (W := 0) A0 (m_chkL l Z a0 hw _ h0 n0 A0.old (by omega)) (wd hw 175 rfl) (wd hw 168 rfl) (by decide) (by decide)) (kc := 0) (ks := 0) (by decide) (by decide) all0 (fun q => nomatch q) fun v76 T76 h76 L76 A76 K76 q76 => ?_
  obtain ⟨rfl, hh76⟩ := q76
  obtain rfl := hh76.symm
  show Wp pG e below _ T76 (mkF m 5 _ [])
  refine f_iloadN A76 d31_5 (pc' := 6) rfl rfl ?_
  refine f_iloadN A76 d31_6 (pc' := 7) rfl rfl ?_
  refine f_isub A76 d31_7 (pc' := 8) rfl (Int32.ofNat cs.length) (by rw [show (0 : Int32) = Int32.ofNat 0 from rfl, ofn_sub (by omega) (by omega), Nat.sub_zero]) ?_
  refine f_istoreN A76 d31_8 (pc' := 9) rfl (L' := #[.val (.ref v), .val (.int (0 : Int32)), .val (.int (Int32.ofNat cs.length)), .val (.int (Int32.ofNat cs.length)), .unset]) rfl ?_
  refine f_iloadN A76 d31_9 (pc' := 10) rfl rfl ?_
  refine f_newP A76 64 d31_10 (pc' := 12) rfl (wd hw 19 rfl) (ofn_nn (by omega)) (by rw [ofn_clamp (by omega)]; exact hcl) (by decide) (by decide) (by decide) (ad := "[B") (by decide) fun a77 T77 h77 k77 g77 A77 E77 F77 X77 => ?_
  have z77 : n0 ≤ a77 := Nat.le_trans A76.sz (Nat.le_of_eq g77.symm)
  have y77 : h0.size ≤ a77 := Nat.le_trans K0.1 (Nat.le_of_eq g77.symm)
  have Q78 : Keep h0 h77 [] := K0.ext E77
  have V77 := F77
  refine f_astore A77 d31_12 (pc' := 14) rfl rfl (L' := #[.val (.ref v), .val (.int (0 : Int32)), .val (.int (Int32.ofNat cs.length)), .val (.int (Int32.ofNat cs.length)), .val (.ref a77)]) rfl ?_
  refine f_aloadN A77 d31_14 (pc' := 15) rfl rfl rfl ?_
  refine f_iloadN A77 d31_15 (pc' := 16) rfl rfl ?_
  refine f_aload A77 d31_16 (pc' := 18) rfl rfl rfl ?_
  refine f_iconst A77 d31_18 (pc' := 19) rfl 0 rfl ?_
  refine f_aloadN A77 d31_19 (pc' := 20) rfl rfl rfl ?_
  have c79 := (V.ext E77)
  refine f_arraylength A77 d31_20 (pc' := 21) rfl c79 ?_
  refine f_iloadN A77 d31_21 (pc' := 22) rfl rfl ?_
  refine f_isub A77 d31_22 (pc' := 23) rfl (Int32.ofNat cap) (by rw [show (0 : Int32) = Int32.ofNat 0 from rfl, ofn_sub (by omega) (by omega), Nat.sub_zero]) ?_
  refine f_iloadN A77 d31_23 (pc' := 24) rfl rfl ?_
  refine f_callS A77 d31_24 (pc' := 27) rfl (wd hw 176 rfl) (wd hw 177 rfl) (wd hw 178 rfl) (wd hw 179 rfl) (by decide) pd9 [(.int (Int32.ofNat cap)), (.int (Int32.ofNat cs.length))] [(.int (0 : Int32)), (.ref a77), (.int (0 : Int32)), (.ref v)] rfl rfl rfl 4 (Nat.le_of_eq rfl) (CN.pay (W := 4) A77 (m_min l Z a0 hw (Int32.ofNat cap) (Int32.ofNat cs.length) h77 n0 A77.old) (wd hw 179 rfl) (wd hw 178 rfl) (by decide) (by decide)) (kc := 0) (ks := 0) (by decide) (by decide) all0 (fun q => nomatch q) fun v80 T80 h80 L80 A80 K80 q80 => ?_
  obtain ⟨e80, hh80⟩ := q80
  obtain rfl := hh80.symm
  rw [if_pos ((ofn_lt (by omega) (by omega)).mpr hlt)] at e80
  subst e80
  show Wp pG e below _ T80 (mkF m 27 _ [(.int (Int32.ofNat cs.length)), (.int (0 : Int32)), (.ref a77), (.int (0 : Int32)), (.ref v)])
  refine f_arrcpy A80 0 d31_27 (pc' := 30) rfl (wd hw 180 rfl) (wd hw 110 rfl) (wd hw 108 rfl) (wd hw 109 rfl) c79 (V77.pad (pad_rep [] (.int 0) cs.length)) (Or.inl ⟨rfl, rfl⟩) (by decide) (by decide) (ofn_nn (by omega)) (by rw [ofn_clamp (by omega), ofn_clamp (by omega)]; show 0 + _ ≤ _; omega) (by rw [ofn_clamp (by omega)]; exact Nat.le_of_eq (Nat.zero_add _)) (us := (cs.map fun c => Value.int (StrChars.lo8 c))) (by rw [ofn_clamp (by omega)]; exact (rng_pad (by omega)).symm) (by rw [ofn_clamp (by omega)]; show 0 + _ ≤ _; simp) (vd' := (cs.map fun c => Value.int (StrChars.lo8 c))) (by rw [ofn_clamp (by omega)]; show List.take 0 _ ++ _ ++ List.drop (0 + _) _ = _; simp) z77 (fun q => nomatch q) rfl (by decide) (Nat.le_of_eq rfl) (by decide) fun T81 h81 L81 A81 K81 V81 => ?_
  have Q82 : Keep h0 h81 [] := Q78.trans K81 (allS (Or.inr y77) all0)
  refine f_aload A81 d31_30 (pc' := 32) rfl rfl rfl ?_
  exact f_retRN A81 hlk hret d31_32 rfl rfl (by decide) (by decide) Q82 ⟨a77, k77, rfl, y77, V81⟩
theorem d30_0 : decode jdk_65_method_132_code 0 = .ok (.iload_n 1, 1) := by decide +kernel
theorem d30_1 : decode jdk_65_method_132_code 1 = .ok (.ifCond .ne 9, 3) := by decide +kernel
theorem d30_4 : decode jdk_65_method_132_code 4 = .ok (.iload_n 2, 1) := by decide +kernel
theorem d30_5 : decode jdk_65_method_132_code 5 = .ok (.aload_n 0, 1) := by decide +kernel
theorem d30_6 : decode jdk_65_method_132_code 6 = .ok (.arraylength, 1) := by decide +kernel
theorem d30_7 : decode jdk_65_method_132_code 7 = .ok (.if_icmp .eq 10, 3) := by decide +kernel
theorem d30_10 : decode jdk_65_method_132_code 10 = .ok (.aload_n 0, 1) := by decide +kernel
theorem d30_11 : decode jdk_65_method_132_code 11 = .ok (.iload_n 1, 1) := by decide +kernel
theorem d30_12 : decode jdk_65_method_132_code 12 = .ok (.iload_n 2, 1) := by decide +kernel
theorem d30_13 : decode jdk_65_method_132_code 13 = .ok (.invokestatic 339, 3) := by decide +kernel
theorem pd10 : parseMethodDescriptor "([BII)[B" = some ⟨[(.array .byte), .int, .int], some (.array .byte)⟩ := by decide +kernel
theorem d30_16 : decode jdk_65_method_132_code 16 = .ok (.areturn, 1) := by decide +kernel
theorem d30_17 : decode jdk_65_method_132_code 17 = .ok (.aload_n 0, 1) := by decide +kernel
theorem d30_18 : decode jdk_65_method_132_code 18 = .ok (.invokevirtual 310, 3) := by decide +kernel
theorem d30_21 : decode jdk_65_method_132_code 21 = .ok (.checkcast 311, 3) := by decide +kernel
theorem d30_24 : decode jdk_65_method_132_code 24 = .ok (.areturn, 1) := by decide +kernel
set_option maxRecDepth 65536 in
set_option maxHeartbeats 40000000 in
theorem m_cor (l : Launch) (Z : State) (a0 : Array Value) (hw : ∀ d ∈ tables_1, d.before a0 Z = true) (v : Addr) (kb : ClassId) (cap : Nat) (cs : List Int32) (h0 : Heap) (n0 : Nat) (ho : Old Z n0 h0) (V : Arv Z h0 v kb .byte (Int32.ofNat cap) (pad cap cs) (.int 0)) (Xv : Exa Z h0 v "[B") (hlt : cs.length ≤ cap) (hb : cap < 100000) (hcl : cs.length ≤ 64) :
    CN l (⟨"java/util/Arrays", "copyOfRange", "([BII)[B"⟩ : MethodName) jdk_65_method_132_code 3 (some (.array .byte)) [] ({ frames := 2, cells := 1, slots := 64, locals := 80 } : Room) Z n0 h0 #[(.ref v), (.int (0 : Int32)), (.int (Int32.ofNat cs.length))] [] (fun r h => ∃ (t : Addr) (kt : ClassId), r = some (.ref t) ∧ h0.size ≤ t ∧ Arv Z h t kt .byte (Int32.ofNat cs.length) (cs.map fun c => Value.int (StrChars.lo8 c)) (.int 0)) := by
  refine CN.walk (plainFor_of_name pn3) ho (L0 := #[.val (.ref v), .val (.int (0 : Int32)), .val (.int (Int32.ofNat cs.length))]) (fun m => rfl) ?_
  intro pG e s m below meth cO T hlk hret hnm A0
  have K0 : Keep h0 h0 [] := Keep.refl _ _
  refine f_iloadN A0 d30_0 (pc' := 1) rfl rfl ?_
  refine f_ifN A0 d30_1 ((if0 _ _).trans (teq (by decide : (0 : Int32) = (0 : Int32))).2) (pc' := 4) rfl ?_
  refine f_iloadN A0 d30_4 (pc' := 5) rfl rfl ?_
  refine f_aloadN A0 d30_5 (pc' := 6) rfl rfl rfl ?_
  refine f_arraylength A0 d30_6 (pc' := 7) rfl V ?_
  by_cases hlt : cs.length < cap
  · refine f_icN A0 d30_7 (feq (fun q => by have q2 := congrArg Int32.toInt q; rw [ofn (by omega), ofn (by omega)] at q2; omega)).1 (pc' := 10) rfl ?_
    refine f_aloadN A0 d30_10 (pc' := 11) rfl rfl rfl ?_
    refine f_iloadN A0 d30_11 (pc' := 12) rfl rfl ?_
    refine f_iloadN A0 d30_12 (pc' := 13) rfl rfl ?_
    refine f_callS A0 d30_13 (pc' := 16) rfl (wd hw 170 rfl) (wd hw 171 rfl) (wd hw 168 rfl) (wd hw 172 rfl) (by decide) pd10 [(.ref v), (.int (0 : Int32)), (.int (Int32.ofNat cs.length))] [] rfl rfl rfl 0 (Nat.le_of_eq rfl) (CN.pay (W := 0) A0 (m_corb l Z a0 hw v kb cap cs h0 n0 A0.old V hlt hb hcl) (wd hw 172 rfl) (wd hw 168 rfl) (by decide) (by decide)) (kc := 1) (ks := 64) (by decide) (by decide) all0 (fun q => nomatch q) fun v83 T83 h83 L83 A83 K83 q83 => ?_
    have Q84 : Keep h0 h83 [] := K0.trans K83 all0
    obtain ⟨t, kt, rfl, gt, Tv83⟩ := q83
    show Wp pG e below _ T83 (mkF m 16 _ [(.ref t)])
    exact f_retRN A83 hlk hret d30_16 rfl rfl (by decide) (by decide) Q84 ⟨t, kt, rfl, (Nat.le_trans K0.1 gt), Tv83⟩
  · have ecap : cs.length = cap := by omega
    subst ecap
    refine f_icY A0 d30_7 (teq rfl).1 (pc' := 17) (by decide) (by decide) ?_
    refine f_aloadN A0 d30_17 (pc' := 18) rfl rfl rfl ?_
    refine f_clone A0 0 64 d30_18 (pc' := 21) rfl (wd hw 269 rfl) (wd hw 270 rfl) (wd hw 274 rfl) (wd hw 272 rfl) (wd hw 273 rfl) (wd hw 275 rfl) V Xv rfl (by decide) (Nat.le_of_eq rfl) (by decide) (by rw [ofn_clamp (by omega)]; exact hcl) (by decide) (by decide) fun a85 T85 h85 g85 A85 E85 V85 X85 => ?_
    have z85 : n0 ≤ a85 := Nat.le_trans A0.sz (Nat.le_of_eq g85.symm)
    have y85 : h0.size ≤ a85 := Nat.le_trans K0.1 (Nat.le_of_eq g85.symm)
    have Q86 : Keep h0 h85 [] := K0.ext E85
    refine f_cast A85 d30_21 (pc' := 24) rfl (wd hw 276 rfl) (Ins.self X85) fun T87 A87 => ?_
    exact f_retRN A87 hlk hret d30_24 rfl rfl (by decide) (by decide) Q86 ⟨a85, kb, rfl, y85, by rw [← pad_full]; exact V85⟩
theorem d27_0 : decode jdk_68_method_64_code 0 = .ok (.aload_n 0, 1) := by decide +kernel
theorem d27_1 : decode jdk_68_method_64_code 1 = .ok (.getfield 15, 3) := by decide +kernel
theorem d27_4 : decode jdk_68_method_64_code 4 = .ok (.areturn, 1) := by decide +kernel
set_option maxRecDepth 65536 in
set_option maxHeartbeats 40000000 in
theorem m_gv (l : Launch) (Z : State) (a0 : Array Value) (hw : ∀ d ∈ tables_1, d.before a0 Z = true) (b v : Addr) (kb : ClassId) (cap : Nat) (cs : List Int32) (h0 : Heap) (n0 : Nat) (ho : Old Z n0 h0) (B : SBd Z h0 b v kb cap cs) :
    CN l (⟨"java/lang/AbstractStringBuilder", "getValue", "()[B"⟩ : MethodName) jdk_68_method_64_code 1 (some (.array .byte)) [] ({ frames := 0, cells := 0, slots := 0, locals := 0 } : Room) Z n0 h0 #[(.ref b)] [] (fun r h => r = some (.ref v) ∧ h = h0) := by
  refine CN.walk (plainFor_of_name pn1) ho (L0 := #[.val (.ref b)]) (fun m => rfl) ?_
  intro pG e s m below meth cO T hlk hret hnm A0
  have K0 : Keep h0 h0 [] := Keep.refl _ _
  obtain ⟨E_, Fv_, Fc_, Fn_, V_, Ev_⟩ := id B
  refine f_aloadN A0 d27_0 (pc' := 1) rfl rfl rfl ?_
  refine f_getF A0 d27_1 (pc' := 4) rfl (host := "") (Or.inl (wd hw 60 rfl)) Via.refl Fv_ fun T88 A88 => ?_
  exact f_retRN A88 hlk hret d27_4 rfl rfl (by decide) (by decide) K0 ⟨rfl, rfl⟩
theorem d29_0 : decode jdk_68_method_6_code 0 = .ok (.aload_n 0, 1) := by decide +kernel
theorem d29_1 : decode jdk_68_method_6_code 1 = .ok (.getfield 79, 3) := by decide +kernel
theorem d29_4 : decode jdk_68_method_6_code 4 = .ok (.ireturn, 1) := by decide +kernel
set_option maxRecDepth 65536 in
set_option maxHeartbeats 40000000 in
theorem m_asbL (l : Launch) (Z : State) (a0 : Array Value) (hw : ∀ d ∈ tables_1, d.before a0 Z = true) (b v : Addr) (kb : ClassId) (cap : Nat) (cs : List Int32) (h0 : Heap) (n0 : Nat) (ho : Old Z n0 h0) (B : SBd Z h0 b v kb cap cs) :
    CN l (⟨"java/lang/AbstractStringBuilder", "length", "()I"⟩ : MethodName) jdk_68_method_6_code 1 (some .int) [] ({ frames := 0, cells := 0, slots := 0, locals := 0 } : Room) Z n0 h0 #[(.ref b)] [] (fun r h => r = some (.int (Int32.ofNat cs.length)) ∧ h = h0) := by
  refine CN.walk (plainFor_of_name pn1) ho (L0 := #[.val (.ref b)]) (fun m => rfl) ?_
  intro pG e s m below meth cO T hlk hret hnm A0
  have K0 : Keep h0 h0 [] := Keep.refl _ _
  obtain ⟨E_, Fv_, Fc_, Fn_, V_, Ev_⟩ := id B
  refine f_aloadN A0 d29_0 (pc' := 1) rfl rfl rfl ?_
  refine f_getF A0 d29_1 (pc' := 4) rfl (host := "") (Or.inl (wd hw 84 rfl)) Via.refl Fn_ fun T89 A89 => ?_
  exact f_retIN A89 hlk hret d29_4 (by decide) (by decide) K0 ⟨rfl, rfl⟩
theorem d28_0 : decode jdk_67_method_93_code 0 = .ok (.aload_n 0, 1) := by decide +kernel
theorem d28_1 : decode jdk_67_method_93_code 1 = .ok (.invokespecial 343, 3) := by decide +kernel
theorem d28_4 : decode jdk_67_method_93_code 4 = .ok (.ireturn, 1) := by decide +kernel
set_option maxRecDepth 65536 in
set_option maxHeartbeats 40000000 in
theorem m_sbL (l : Launch) (Z : State) (a0 : Array Value) (hw : ∀ d ∈ tables_1, d.before a0 Z = true) (b v : Addr) (kb : ClassId) (cap : Nat) (cs : List Int32) (h0 : Heap) (n0 : Nat) (ho : Old Z n0 h0) (B : SBd Z h0 b v kb cap cs) :
    CN l (⟨"java/lang/StringBuilder", "length", "()I"⟩ : MethodName) jdk_67_method_93_code 1 (some .int) [] ({ frames := 1, cells := 0, slots := 0, locals := 12 } : Room) Z n0 h0 #[(.ref b)] [] (fun r h => r = some (.int (Int32.ofNat cs.length)) ∧ h = h0) := by
  refine CN.walk (plainFor_of_name pn2) ho (L0 := #[.val (.ref b)]) (fun m => rfl) ?_
  intro pG e s m below meth cO T hlk hret hnm A0
  have K0 : Keep h0 h0 [] := Keep.refl _ _
  refine f_aloadN A0 d28_0 (pc' := 1) rfl rfl rfl ?_
  refine f_callU A0 (a := b) d28_1 (pc' := 4) rfl (wd hw 163 rfl) (nfOf (wd hw 89 rfl) rfl) (by decide) (wd hw 159 rfl) (wd hw 71 rfl) (wd hw 164 rfl) (by decide) B.1 pd5 [] [] rfl rfl rfl 0 (Nat.le_of_eq rfl) (CN.pay (W := 0) A0 (m_asbL l Z a0 hw b v kb cap cs h0 n0 A0.old B) (wd hw 164 rfl) (wd hw 56 rfl) (by decide) (by decide)) (kc := 0) (ks := 0) (by decide) (by decide) all0 (fun q => nomatch q) fun v90 T90 h90 L90 A90 K90 q90 => ?_
  obtain ⟨rfl, hh90⟩ := q90
  obtain rfl := hh90.symm
  show Wp pG e below _ T90 (mkF m 4 _ [(.int (Int32.ofNat cs.length))])
  exact f_retIN A90 hlk hret d28_4 (by decide) (by decide) K0 ⟨rfl, rfl⟩
theorem d22_0 : decode jdk_68_method_68_code 0 = .ok (.getstatic 18, 3) := by decide +kernel
theorem d22_3 : decode jdk_68_method_68_code 3 = .ok (.ifCond .eq 14, 3) := by decide +kernel
theorem d22_6 : decode jdk_68_method_68_code 6 = .ok (.aload_n 0, 1) := by decide +kernel
theorem d22_7 : decode jdk_68_method_68_code 7 = .ok (.getfield 22, 3) := by decide +kernel
theorem d22_10 : decode jdk_68_method_68_code 10 = .ok (.ifCond .ne 7, 3) := by decide +kernel
theorem d22_13 : decode jdk_68_method_68_code 13 = .ok (.iconst 1, 1) := by decide +kernel
theorem d22_14 : decode jdk_68_method_68_code 14 = .ok (.goto 4, 3) := by decide +kernel
theorem d22_18 : decode jdk_68_method_68_code 18 = .ok (.ireturn, 1) := by decide +kernel
set_option maxRecDepth 65536 in
set_option maxHeartbeats 40000000 in
theorem m_asbLat (l : Launch) (Z : State) (a0 : Array Value) (hw : ∀ d ∈ tables_1, d.before a0 Z = true) (b v : Addr) (kb : ClassId) (cap : Nat) (cs : List Int32) (zc : Int32) (O2 : Sta Z Z.heap "java/lang/String" "COMPACT_STRINGS" "Z" (.int zc)) (P5 : ¬ zc = 0) (h0 : Heap) (n0 : Nat) (ho : Old Z n0 h0) (B : SBd Z h0 b v kb cap cs) :
    CN l (⟨"java/lang/AbstractStringBuilder", "isLatin1", "()Z"⟩ : MethodName) jdk_68_method_68_code 1 (some .boolean) [] ({ frames := 0, cells := 0, slots := 0, locals := 0 } : Room) Z n0 h0 #[(.ref b)] [] (fun r h => r = some (.int 1) ∧ h = h0) := by
  refine CN.walk (plainFor_of_name pn1) ho (L0 := #[.val (.ref b)]) (fun m => rfl) ?_
  intro pG e s m below meth cO T hlk hret hnm A0
  have K0 : Keep h0 h0 [] := Keep.refl _ _
  obtain ⟨E_, Fv_, Fc_, Fn_, V_, Ev_⟩ := id B
  refine f_getS A0 d22_0 (pc' := 3) rfl (host := "") (Or.inl (wd hw 59 rfl)) Via.refl O2 fun T91 A91 => ?_
  refine f_ifN A91 d22_3 ((if0 _ _).trans (feq P5).1) (pc' := 6) rfl ?_
  refine f_aloadN A91 d22_6 (pc' := 7) rfl rfl rfl ?_
  refine f_getF A91 d22_7 (pc' := 10) rfl (host := "") (Or.inl (wd hw 62 rfl)) Via.refl Fc_ fun T92 A92 => ?_
  refine f_ifN A92 d22_10 ((if0 _ _).trans (teq (by decide : (0 : Int32) = (0 : Int32))).2) (pc' := 13) rfl ?_
  refine f_iconst A92 d22_13 (pc' := 14) rfl 1 rfl ?_
  refine f_goto A92 d22_14 (pc' := 18) (by decide) (by decide) ?_
  exact f_retBN A92 hlk hret d22_18 (by decide) (1 : Int32) (by decide) (by decide) (by decide) K0 ⟨rfl, rfl⟩
theorem d26_0 : decode jdk_42_method_150_code 0 = .ok (.aload_n 0, 1) := by decide +kernel
theorem d26_1 : decode jdk_42_method_150_code 1 = .ok (.invokespecial 1, 3) := by decide +kernel
theorem d26_4 : decode jdk_42_method_150_code 4 = .ok (.aload_n 1, 1) := by decide +kernel
theorem d26_5 : decode jdk_42_method_150_code 5 = .ok (.invokevirtual 552, 3) := by decide +kernel
theorem pd11 : parseMethodDescriptor "()[B" = some ⟨[], some (.array .byte)⟩ := by decide +kernel
theorem d26_8 : decode jdk_42_method_150_code 8 = .ok (.astore_n 3, 1) := by decide +kernel
theorem d26_9 : decode jdk_42_method_150_code 9 = .ok (.aload_n 1, 1) := by decide +kernel
theorem d26_10 : decode jdk_42_method_150_code 10 = .ok (.invokevirtual 549, 3) := by decide +kernel
theorem d26_13 : decode jdk_42_method_150_code 13 = .ok (.istore 4, 2) := by decide +kernel
theorem d26_15 : decode jdk_42_method_150_code 15 = .ok (.aload_n 1, 1) := by decide +kernel
theorem d26_16 : decode jdk_42_method_150_code 16 = .ok (.invokevirtual 1047, 3) := by decide +kernel
theorem pd12 : parseMethodDescriptor "()Z" = some ⟨[], some .boolean⟩ := by decide +kernel
theorem d26_19 : decode jdk_42_method_150_code 19 = .ok (.ifCond .eq 22, 3) := by decide +kernel
theorem d26_22 : decode jdk_42_method_150_code 22 = .ok (.aload_n 0, 1) := by decide +kernel
theorem d26_23 : decode jdk_42_method_150_code 23 = .ok (.iconst 0, 1) := by decide +kernel
theorem d26_24 : decode jdk_42_method_150_code 24 = .ok (.putfield 15, 3) := by decide +kernel
theorem d26_27 : decode jdk_42_method_150_code 27 = .ok (.aload_n 0, 1) := by decide +kernel
theorem d26_28 : decode jdk_42_method_150_code 28 = .ok (.aload_n 3, 1) := by decide +kernel
theorem d26_29 : decode jdk_42_method_150_code 29 = .ok (.iconst 0, 1) := by decide +kernel
theorem d26_30 : decode jdk_42_method_150_code 30 = .ok (.iload 4, 2) := by decide +kernel
theorem d26_32 : decode jdk_42_method_150_code 32 = .ok (.invokestatic 54, 3) := by decide +kernel
theorem d26_35 : decode jdk_42_method_150_code 35 = .ok (.putfield 9, 3) := by decide +kernel
theorem d26_38 : decode jdk_42_method_150_code 38 = .ok (.goto 59, 3) := by decide +kernel
theorem d26_97 : decode jdk_42_method_150_code 97 = .ok (.return_, 1) := by decide +kernel
set_option maxRecDepth 65536 in
set_option maxHeartbeats 40000000 in
theorem m_strA (l : Launch) (Z : State) (a0 : Array Value) (hw : ∀ d ∈ tables_1, d.before a0 Z = true) (x : Addr) (b v : Addr) (kb : ClassId) (cap : Nat) (cs : List Int32) (zc : Int32) (O2 : Sta Z Z.heap "java/lang/String" "COMPACT_STRINGS" "Z" (.int zc)) (P5 : ¬ zc = 0) (h0 : Heap) (n0 : Nat) (ho : Old Z n0 h0) (E : Exa Z h0 x "java/lang/String") (Vx : Fld Z h0 x "java/lang/String" "value" "[B" .null) (Cx : Fld Z h0 x "java/lang/String" "coder" "B" (.int 0)) (gx : n0 ≤ x) (nxb : x ≠ b) (nxv : x ≠ v) (B : SBd Z h0 b v kb cap cs) (hlt : cs.length ≤ cap) (hb : cap < 100000) (hcl : cs.length ≤ 64) (lat : ∀ c ∈ cs, ¬ c < 0 ∧ ¬ (255 : Int32) < c) :
    CN l (⟨"java/lang/String", "<init>", "(Ljava/lang/AbstractStringBuilder;Ljava/lang/Void;)V"⟩ : MethodName) jdk_42_method_150_code 5 none [] ({ frames := 3, cells := 1, slots := 64, locals := 110 } : Room) Z n0 h0 #[(.ref x), (.ref b), .null] [x] (fun r h => r = none ∧ ∃ t : Addr, n0 ≤ t ∧ h0.size ≤ t ∧ ¬ t = x ∧ Str Z h x t cs) := by
  refine CN.walk (plainFor_of_name pn0) ho (L0 := #[.val (.ref x), .val (.ref b), .val .null, .unset, .unset]) (fun m => rfl) ?_
  intro pG e s m below meth cO T hlk hret hnm A0
  have K0 : Keep h0 h0 [x] := Keep.refl _ _
  obtain ⟨E_, Fv_, Fc_, Fn_, V_, Ev_⟩ := id B
  refine f_aloadN A0 d26_0 (pc' := 1) rfl rfl rfl ?_
  refine f_initO A0 (W := 0) d26_1 (pc' := 4) rfl (wd hw 11 rfl) (wd hw 12 rfl) (wd hw 13 rfl) rfl (by decide) (Nat.le_of_eq rfl) (by decide) fun T93 A93 => ?_
  refine f_aloadN A93 d26_4 (pc' := 5) rfl rfl rfl ?_
  refine f_callV A93 (a := b) d26_5 (pc' := 8) rfl (wd hw 152 rfl) (wd hw 153 rfl) (nfS A93 (wd hw 155 rfl)) (wd hw 155 rfl) (wd hw 154 rfl) (by decide) E_ pd11 [] [] rfl rfl rfl 0 (Nat.le_of_eq rfl) (CN.pay (W := 0) A93 (m_gv l Z a0 hw b v kb cap cs h0 n0 A93.old (B.keep (Keep.refl _ _) nin0 nin0)) (wd hw 156 rfl) (wd hw 56 rfl) (by decide) (by decide)) (kc := 0) (ks := 0) (by decide) (by decide) all0 (fun q => nomatch q) fun v94 T94 h94 L94 A94 K94 q94 => ?_
  obtain ⟨rfl, hh94⟩ := q94
  obtain rfl := hh94.symm
  show Wp pG e below _ T94 (mkF m 8 _ [(.ref v)])
  refine f_astoreN A94 d26_8 (pc' := 9) rfl rfl (L' := #[.val (.ref x), .val (.ref b), .val .null, .val (.ref v), .unset]) rfl ?_
  refine f_aloadN A94 d26_9 (pc' := 10) rfl rfl rfl ?_
  refine f_callV A94 (a := b) d26_10 (pc' := 13) rfl (wd hw 157 rfl) (wd hw 158 rfl) (nfT A94 (wd hw 89 rfl) rfl) (wd hw 160 rfl) (wd hw 161 rfl) (by decide) E_ pd5 [] [] rfl rfl rfl 0 (Nat.le_of_eq rfl) (CN.pay (W := 0) A94 (m_sbL l Z a0 hw b v kb cap cs h0 n0 A94.old (B.keep (Keep.refl _ _) nin0 nin0)) (wd hw 162 rfl) (wd hw 48 rfl) (by decide) (by decide)) (kc := 0) (ks := 0) (by decide) (by decide) all0 (fun q => nomatch q) fun v95 T95 h95 L95 A95 K95 q95 => ?_
  obtain ⟨rfl, hh95⟩ := q95
  obtain rfl := hh95.symm
  show Wp pG e below _ T95 (mkF m 13 _ [(.int (Int32.ofNat cs.length))])
  refine f_istore A95 d26_13 (pc' := 15) rfl (L' := #[.val (.ref x), .val (.ref b), .val .null, .val (.ref v), .val (.int (Int32.ofNat cs.length))]) rfl ?_
  refine f_aloadN A95 d26_15 (pc' := 16) rfl rfl rfl ?_
  refine f_callV A95 (a := b) d26_16 (pc' := 19) rfl (wd hw 165 rfl) (wd hw 129 rfl) (nfS A95 (wd hw 131 rfl)) (wd hw 131 rfl) (wd hw 130 rfl) (by decide) E_ pd12 [] [] rfl rfl rfl 0 (Nat.le_of_eq rfl) (CN.pay (W := 0) A95 (m_asbLat l Z a0 hw b v kb cap cs zc O2 P5 h0 n0 A95.old (B.keep (Keep.refl _ _) nin0 nin0)) (wd hw 132 rfl) (wd hw 56 rfl) (by decide) (by decide)) (kc := 0) (ks := 0) (by decide) (by decide) all0 (fun q => nomatch q) fun v96 T96 h96 L96 A96 K96 q96 => ?_
  obtain ⟨rfl, hh96⟩ := q96
  obtain rfl := hh96.symm
  show Wp pG e below _ T96 (mkF m 19 _ [(.int (1 : Int32))])
  refine f_ifN A96 d26_19 ((if0 _ _).trans (feq (by decide : ¬ (1 : Int32) = (0 : Int32))).1) (pc' := 22) rfl ?_
  refine f_aloadN A96 d26_22 (pc' := 23) rfl rfl rfl ?_
  refine f_iconst A96 d26_23 (pc' := 24) rfl 0 rfl ?_
  refine f_putF A96 (.int (0 : Int32)) d26_24 (pc' := 27) rfl (wd hw 26 rfl) Via.refl Cx E (Or.inr ⟨(wd hw 27 rfl), rfl, hnm⟩) (wd hw 1 rfl) (ty := .byte) (by decide) rfl (by decide) gx (fun q => nomatch q) fun T97 h97 A97 W97 K97 X97 F97 => ?_
  have Q98 : Keep h0 h97 [x] := K0.trans K97 (allS (Or.inl (List.mem_of_getElem? (i := 0) rfl)) all0)
  refine f_aloadN A97 d26_27 (pc' := 28) rfl rfl rfl ?_
  refine f_aloadN A97 d26_28 (pc' := 29) rfl rfl rfl ?_
  refine f_iconst A97 d26_29 (pc' := 30) rfl 0 rfl ?_
  refine f_iload A97 d26_30 (pc' := 32) rfl rfl ?_
  have c99 := (V_.keep K97 (ninS (Ne.symm nxv) nin0))
  have c100 := (Ev_.keep K97)
  refine f_callS A97 d26_32 (pc' := 35) rfl (wd hw 166 rfl) (wd hw 167 rfl) (wd hw 168 rfl) (wd hw 169 rfl) (by decide) pd10 [(.ref v), (.int (0 : Int32)), (.int (Int32.ofNat cs.length))] [(.ref x)] rfl rfl rfl 1 (Nat.le_of_eq rfl) (CN.pay (W := 1) A97 (m_cor l Z a0 hw v kb cap cs h97 n0 A97.old c99 c100 hlt hb hcl) (wd hw 169 rfl) (wd hw 168 rfl) (by decide) (by decide)) (kc := 1) (ks := 64) (by decide) (by decide) all0 (fun q => nomatch q) fun v101 T101 h101 L101 A101 K101 q101 => ?_
  have Q102 : Keep h0 h101 [x] := Q98.trans K101 all0
  obtain ⟨t, kt, rfl, gt, Tv101⟩ := q101
  show Wp pG e below _ T101 (mkF m 35 _ [(.ref t), (.ref x)])
  have c104 := ((Vx.other W97 (Or.inr (slot_ne (Or.inr (wd hw 29 rfl)) (Or.inr (wd hw 27 rfl)) (by decide) (t := (.array .byte)) (t' := .byte) (by decide) (by decide)))).keep K101 nin0)
  have c105 := (X97.keep K101)
  refine f_putF A101 (.ref t) d26_35 (pc' := 38) rfl (wd hw 28 rfl) Via.refl c104 c105 (Or.inr ⟨(wd hw 29 rfl), rfl, hnm⟩) (wd hw 1 rfl) (ty := (.array .byte)) (by decide) rfl rfl gx (fun q => nomatch q) fun T103 h103 A103 W103 K103 X103 F103 => ?_
  have c106 := (F97.keep K101 nin0)
  have Q107 : Keep h0 h103 [x] := Q102.trans K103 (allS (Or.inl (List.mem_of_getElem? (i := 0) rfl)) all0)
  refine f_goto A103 d26_38 (pc' := 97) (by decide) (by decide) ?_
  have c108 := (Tv101.keep K103 (ninS (Ne.symm (Nat.ne_of_lt (Nat.lt_of_lt_of_le (Nat.lt_of_lt_of_le E.lt K97.1) gt))) nin0))
  have G : Str Z h103 x t cs := ⟨X103, ⟨0, _, _, kt, F103, (c106.other W103 (Or.inr (slot_ne (Or.inr (wd hw 27 rfl)) (Or.inr (wd hw 29 rfl)) (by decide) (t := .byte) (t' := (.array .byte)) (by decide) (by decide)))), c108, Or.inl ⟨rfl, rfl, rfl, fun c hc => (lat c hc).2⟩⟩, fun c hc => ⟨(lat c hc).1, up8 (lat c hc).2⟩, by omega⟩
  exact f_retN A103 hlk hret d26_97 (by decide) (by decide) Q107 ⟨rfl, t, (Nat.le_trans A97.sz gt), (Nat.le_trans Q98.1 gt), (Ne.symm (Nat.ne_of_lt (Nat.lt_of_lt_of_le (Nat.lt_of_lt_of_le E.lt K97.1) gt))), G⟩
theorem d25_0 : decode jdk_42_method_53_code 0 = .ok (.aload_n 0, 1) := by decide +kernel
theorem d25_1 : decode jdk_42_method_53_code 1 = .ok (.aload_n 1, 1) := by decide +kernel
theorem d25_2 : decode jdk_42_method_53_code 2 = .ok (.aconst_null, 1) := by decide +kernel
theorem d25_3 : decode jdk_42_method_53_code 3 = .ok (.invokespecial 489, 3) := by decide +kernel
theorem pd13 : parseMethodDescriptor "(Ljava/lang/AbstractStringBuilder;Ljava/lang/Void;)V" = some ⟨[(.object "java/lang/AbstractStringBuilder"), (.object "java/lang/Void")], none⟩ := by decide +kernel
theorem d25_6 : decode jdk_42_method_53_code 6 = .ok (.return_, 1) := by decide +kernel
set_option maxRecDepth 65536 in
set_option maxHeartbeats 40000000 in
theorem m_strB (l : Launch) (Z : State) (a0 : Array Value) (hw : ∀ d ∈ tables_1, d.before a0 Z = true) (x : Addr) (b v : Addr) (kb : ClassId) (cap : Nat) (cs : List Int32) (zc : Int32) (O2 : Sta Z Z.heap "java/lang/String" "COMPACT_STRINGS" "Z" (.int zc)) (P5 : ¬ zc = 0) (h0 : Heap) (n0 : Nat) (ho : Old Z n0 h0) (E : Exa Z h0 x "java/lang/String") (Vx : Fld Z h0 x "java/lang/String" "value" "[B" .null) (Cx : Fld Z h0 x "java/lang/String" "coder" "B" (.int 0)) (gx : n0 ≤ x) (nxb : x ≠ b) (nxv : x ≠ v) (B : SBd Z h0 b v kb cap cs) (hlt : cs.length ≤ cap) (hb : cap < 100000) (hcl : cs.length ≤ 64) (lat : ∀ c ∈ cs, ¬ c < 0 ∧ ¬ (255 : Int32) < c) :
    CN l (⟨"java/lang/String", "<init>", "(Ljava/lang/StringBuilder;)V"⟩ : MethodName) jdk_42_method_53_code 2 none [] ({ frames := 4, cells := 1, slots := 64, locals := 130 } : Room) Z n0 h0 #[(.ref x), (.ref b)] [x] (fun r h => r = none ∧ ∃ t : Addr, n0 ≤ t ∧ h0.size ≤ t ∧ ¬ t = x ∧ Str Z h x t cs) := by
  refine CN.walk (plainFor_of_name pn0) ho (L0 := #[.val (.ref x), .val (.ref b)]) (fun m => rfl) ?_
  intro pG e s m below meth cO T hlk hret hnm A0
  have K0 : Keep h0 h0 [x] := Keep.refl _ _
  obtain ⟨E_, Fv_, Fc_, Fn_, V_, Ev_⟩ := id B
  refine f_aloadN A0 d25_0 (pc' := 1) rfl rfl rfl ?_
  refine f_aloadN A0 d25_1 (pc' := 2) rfl rfl rfl ?_
  refine f_aconst_null A0 d25_2 (pc' := 3) rfl ?_
  refine f_callI A0 (a := x) d25_3 (pc' := 6) rfl rfl (wd hw 149 rfl) (wd hw 150 rfl) (wd hw 151 rfl) (by decide) pd13 [(.ref b), .null] [] rfl rfl rfl 0 (Nat.le_of_eq rfl) (CN.pay (W := 0) A0 (m_strA l Z a0 hw x b v kb cap cs zc O2 P5 h0 n0 A0.old E Vx Cx gx nxb nxv B hlt hb hcl lat) (wd hw 151 rfl) (wd hw 2 rfl) (by decide) (by decide)) (kc := 1) (ks := 64) (by decide) (by decide) (allS gx all0) (fun q => nomatch q) fun v109 T109 h109 L109 A109 K109 q109 => ?_
  have Q110 : Keep h0 h109 [x] := K0.trans K109 (allS (Or.inl (List.mem_of_getElem? (i := 0) rfl)) all0)
  obtain ⟨rfl, t, tz, tg, tn, G⟩ := q109
  show Wp pG e below _ T109 (mkF m 6 _ [])
  exact f_retN A109 hlk hret d25_6 (by decide) (by decide) Q110 ⟨rfl, t, tz, tg, tn, G⟩
theorem d24_0 : decode jdk_67_method_42_code 0 = .ok (.new 18, 3) := by decide +kernel
theorem d24_3 : decode jdk_67_method_42_code 3 = .ok (.dup, 1) := by decide +kernel
theorem d24_4 : decode jdk_67_method_42_code 4 = .ok (.aload_n 0, 1) := by decide +kernel
theorem d24_5 : decode jdk_67_method_42_code 5 = .ok (.invokespecial 137, 3) := by decide +kernel
theorem pd14 : parseMethodDescriptor "(Ljava/lang/StringBuilder;)V" = some ⟨[(.object "java/lang/StringBuilder")], none⟩ := by decide +kernel
theorem d24_8 : decode jdk_67_method_42_code 8 = .ok (.areturn, 1) := by decide +kernel
set_option maxRecDepth 65536 in
set_option maxHeartbeats 40000000 in
theorem m_sbS (l : Launch) (Z : State) (a0 : Array Value) (hw : ∀ d ∈ tables_1, d.before a0 Z = true) (b v : Addr) (kb : ClassId) (cap : Nat) (cs : List Int32) (zc : Int32) (O2 : Sta Z Z.heap "java/lang/String" "COMPACT_STRINGS" "Z" (.int zc)) (P5 : ¬ zc = 0) (h0 : Heap) (n0 : Nat) (ho : Old Z n0 h0) (B : SBd Z h0 b v kb cap cs) (hlt : cs.length ≤ cap) (hb : cap < 100000) (hcl : cs.length ≤ 64) (lat : ∀ c ∈ cs, ¬ c < 0 ∧ ¬ (255 : Int32) < c) :
    CN l (⟨"java/lang/StringBuilder", "toString", "()Ljava/lang/String;"⟩ : MethodName) jdk_67_method_42_code 1 (some (.object "java/lang/String")) [] ({ frames := 5, cells := 2, slots := 70, locals := 150 } : Room) Z n0 h0 #[(.ref b)] [] (fun r h => ∃ (x t : Addr), r = some (.ref x) ∧ n0 ≤ x ∧ h0.size ≤ x ∧ h0.size ≤ t ∧ Str Z h x t cs) := by
  refine CN.walk (plainFor_of_name pn2) ho (L0 := #[.val (.ref b)]) (fun m => rfl) ?_
  intro pG e s m below meth cO T hlk hret hnm A0
  have K0 : Keep h0 h0 [] := Keep.refl _ _
  obtain ⟨E_, Fv_, Fc_, Fn_, V_, Ev_⟩ := id B
  refine f_new A0 d24_0 (pc' := 3) rfl (wd hw 145 rfl) (wd hw 1 rfl) (wd hw 2 rfl) (by decide) (by decide) fun a111 T111 h111 g111 A111 E111 X111 D111 => ?_
  have z111 : n0 ≤ a111 := Nat.le_trans A0.sz (Nat.le_of_eq g111.symm)
  have y111 : h0.size ≤ a111 := Nat.le_trans K0.1 (Nat.le_of_eq g111.symm)
  have Q112 : Keep h0 h111 [] := K0.ext E111
  refine f_dup A111 d24_3 (pc' := 4) rfl rfl ?_
  refine f_aloadN A111 d24_4 (pc' := 5) rfl rfl rfl ?_
  have B113 : SBd Z h111 b v kb cap cs := B.ext E111
  refine f_callI A111 (a := a111) d24_5 (pc' := 8) rfl rfl (wd hw 146 rfl) (wd hw 147 rfl) (wd hw 148 rfl) (by decide) pd14 [(.ref b)] [(.ref a111)] rfl rfl rfl 1 (Nat.le_of_eq rfl) (CN.pay (W := 1) A111 (m_strB l Z a0 hw a111 b v kb cap cs zc O2 P5 h111 n0 A111.old X111 (show Fld Z h111 a111 "java/lang/String" "value" "[B" .null from D111 (Or.inr (wd hw 29 rfl)) (ty := (.array .byte)) (by decide)) (show Fld Z h111 a111 "java/lang/String" "coder" "B" (.int (0 : Int32)) from D111 (Or.inr (wd hw 27 rfl)) (ty := .byte) (by decide)) z111 (Ne.symm (Nat.ne_of_lt (Nat.lt_of_lt_of_le E_.lt (Nat.le_of_eq g111.symm)))) (Ne.symm (Nat.ne_of_lt (Nat.lt_of_lt_of_le V_.lt (Nat.le_of_eq g111.symm)))) B113 hlt hb hcl lat) (wd hw 148 rfl) (wd hw 2 rfl) (by decide) (by decide)) (kc := 1) (ks := 64) (by decide) (by decide) (allS z111 all0) (fun q => nomatch q) fun v114 T114 h114 L114 A114 K114 q114 => ?_
  have Q115 : Keep h0 h114 [] := Q112.trans K114 (allS (Or.inr y111) all0)
  obtain ⟨rfl, t114, tz114, tg114, tn114, G114⟩ := q114
  show Wp pG e below _ T114 (mkF m 8 _ [(.ref a111)])
  exact f_retRN A114 hlk hret d24_8 rfl rfl (by decide) (by decide) Q115 ⟨a111, t114, rfl, z111, y111, (Nat.le_trans Q112.1 tg114), G114⟩
theorem pad_grow {cs : List Int32} (h : cs.length ≤ 16) : pad 16 cs ++ (List.replicate 34 (Value.int 0)).drop 16 = pad 34 cs := by
  rw [pad, pad, List.append_assoc, List.drop_replicate, List.replicate_append_replicate]; congr 2; omega
theorem ofn_gt0 {a b : Nat} (h : b < a) (hb : a < 2147483648) : (0 : Int32) < Int32.ofNat a - Int32.ofNat b := by
  have x := c_isub (Int32.ofNat a) (Int32.ofNat b); have y := rng32 (Int32.ofNat a - Int32.ofNat b); rw [ofn hb, ofn (by omega)] at x; rw [lt_i]; have e : (0 : Int32).toInt = 0 := rfl; omega
theorem d43_0 : decode jdk_29_method_65_code 0 = .ok (.iload_n 0, 1) := by decide +kernel
theorem d43_1 : decode jdk_29_method_65_code 1 = .ok (.iload_n 1, 1) := by decide +kernel
theorem d43_2 : decode jdk_29_method_65_code 2 = .ok (.if_icmp .lt 7, 3) := by decide +kernel
theorem d43_9 : decode jdk_29_method_65_code 9 = .ok (.iload_n 1, 1) := by decide +kernel
theorem d43_10 : decode jdk_29_method_65_code 10 = .ok (.ireturn, 1) := by decide +kernel
theorem d43_5 : decode jdk_29_method_65_code 5 = .ok (.iload_n 0, 1) := by decide +kernel
theorem d43_6 : decode jdk_29_method_65_code 6 = .ok (.goto 4, 3) := by decide +kernel
set_option maxRecDepth 65536 in
set_option maxHeartbeats 40000000 in
theorem m_max (l : Launch) (Z : State) (a0 : Array Value) (hw : ∀ d ∈ tables_1, d.before a0 Z = true) (a b : Int32) (h0 : Heap) (n0 : Nat) (ho : Old Z n0 h0)  :
    CN l (⟨"java/lang/Math", "max", "(II)I"⟩ : MethodName) jdk_29_method_65_code 2 (some .int) [] ({ frames := 0, cells := 0, slots := 0, locals := 0 } : Room) Z n0 h0 #[(.int a), (.int b)] [] (fun v h => v = some (.int (if a < b then b else a)) ∧ h = h0) := by
  refine CN.walk (Jvm.Free.JP.mathPlain rfl (by decide +kernel)) ho (L0 := #[.val (.int a), .val (.int b)]) (fun m => rfl) ?_
  intro pG e s m below meth cO T hlk hret hnm A0
  have K0 : Keep h0 h0 [] := Keep.refl _ _
  refine f_iloadN A0 d43_0 (pc' := 1) rfl rfl ?_
  refine f_iloadN A0 d43_1 (pc' := 2) rfl rfl ?_
  by_cases q : a < b
  · refine f_icY A0 d43_2 (tlt q).1 (pc' := 9) (by decide) (by decide) ?_
    refine f_iloadN A0 d43_9 (pc' := 10) rfl rfl ?_
    exact f_retIN A0 hlk hret d43_10 (by decide) (by decide) K0 ⟨by rw [if_pos q], rfl⟩
  · refine f_icN A0 d43_2 (flt q).1 (pc' := 5) rfl ?_
    refine f_iloadN A0 d43_5 (pc' := 6) rfl rfl ?_
    refine f_goto A0 d43_6 (pc' := 10) (by decide) (by decide) ?_
    exact f_retIN A0 hlk hret d43_10 (by decide) (by decide) K0 ⟨by rw [if_neg q], rfl⟩
theorem pn4 : plainName "jdk/internal/util/ArraysSupport" = true := by first | (simp [plainName, overriddenIn]; done) | decide +kernel
theorem d42_0 : decode jdk_48_method_27_code 0 = .ok (.iload_n 0, 1) := by decide +kernel
theorem d42_1 : decode jdk_48_method_27_code 1 = .ok (.iload_n 1, 1) := by decide +kernel
theorem d42_2 : decode jdk_48_method_27_code 2 = .ok (.iload_n 2, 1) := by decide +kernel
theorem d42_3 : decode jdk_48_method_27_code 3 = .ok (.invokestatic 194, 3) := by decide +kernel
theorem d42_6 : decode jdk_48_method_27_code 6 = .ok (.iadd, 1) := by decide +kernel
theorem d42_7 : decode jdk_48_method_27_code 7 = .ok (.istore_n 3, 1) := by decide +kernel
theorem d42_8 : decode jdk_48_method_27_code 8 = .ok (.iconst 0, 1) := by decide +kernel
theorem d42_9 : decode jdk_48_method_27_code 9 = .ok (.iload_n 3, 1) := by decide +kernel
theorem d42_10 : decode jdk_48_method_27_code 10 = .ok (.if_icmp .ge 11, 3) := by decide +kernel
theorem d42_13 : decode jdk_48_method_27_code 13 = .ok (.iload_n 3, 1) := by decide +kernel
theorem d42_14 : decode jdk_48_method_27_code 14 = .ok (.ldc 200, 2) := by decide +kernel
theorem d42_16 : decode jdk_48_method_27_code 16 = .ok (.if_icmp .gt 5, 3) := by decide +kernel
theorem d42_19 : decode jdk_48_method_27_code 19 = .ok (.iload_n 3, 1) := by decide +kernel
theorem d42_20 : decode jdk_48_method_27_code 20 = .ok (.ireturn, 1) := by decide +kernel
set_option maxRecDepth 65536 in
set_option maxHeartbeats 40000000 in
theorem m_nlen (l : Launch) (Z : State) (a0 : Array Value) (hw : ∀ d ∈ tables_1, d.before a0 Z = true) (g : Nat) (h0 : Heap) (n0 : Nat) (ho : Old Z n0 h0) (hg : g < 18) :
    CN l (⟨"jdk/internal/util/ArraysSupport", "newLength", "(III)I"⟩ : MethodName) jdk_48_method_27_code 4 (some .int) [] ({ frames := 1, cells := 0, slots := 0, locals := 14 } : Room) Z n0 h0 #[(.int (16 : Int32)), (.int (Int32.ofNat g)), (.int (18 : Int32))] [] (fun r h => r = some (.int 34) ∧ h = h0) := by
  refine CN.walk (plainFor_of_name pn4) ho (L0 := #[.val (.int (16 : Int32)), .val (.int (Int32.ofNat g)), .val (.int (18 : Int32)), .unset]) (fun m => rfl) ?_
  intro pG e s m below meth cO T hlk hret hnm A0
  have K0 : Keep h0 h0 [] := Keep.refl _ _
  refine f_iloadN A0 d42_0 (pc' := 1) rfl rfl ?_
  refine f_iloadN A0 d42_1 (pc' := 2) rfl rfl ?_
  refine f_iloadN A0 d42_2 (pc' := 3) rfl rfl ?_
  refine f_callS A0 d42_3 (pc' := 6) rfl (wd hw 243 rfl) (wd hw 244 rfl) (wd hw 178 rfl) (wd hw 245 rfl) (by decide) pd9 [(.int (Int32.ofNat g)), (.int (18 : Int32))] [(.int (16 : Int32))] rfl rfl rfl 1 (Nat.le_of_eq rfl) (CN.pay (W := 1) A0 (m_max l Z a0 hw (Int32.ofNat g) 18 h0 n0 A0.old) (wd hw 245 rfl) (wd hw 178 rfl) (by decide) (by decide)) (kc := 0) (ks := 0) (by decide) (by decide) all0 (fun q => nomatch q) fun v116 T116 h116 L116 A116 K116 q116 => ?_
  obtain ⟨e116, hh116⟩ := q116
  obtain rfl := hh116.symm
  rw [if_pos (show Int32.ofNat g < 18 from (ofn_lt (n := 18) (by omega) (by omega)).mpr hg)] at e116
  subst e116
  show Wp pG e below _ T116 (mkF m 6 _ [(.int (18 : Int32)), (.int (16 : Int32))])
  refine f_iadd A116 d42_6 (pc' := 7) rfl (34 : Int32) (by decide) ?_
  refine f_istoreN A116 d42_7 (pc' := 8) rfl (L' := #[.val (.int (16 : Int32)), .val (.int (Int32.ofNat g)), .val (.int (18 : Int32)), .val (.int (34 : Int32))]) rfl ?_
  refine f_iconst A116 d42_8 (pc' := 9) rfl 0 rfl ?_
  refine f_iloadN A116 d42_9 (pc' := 10) rfl rfl ?_
  refine f_icN A116 d42_10 (tlt (by decide : (0 : Int32) < (34 : Int32))).2.1 (pc' := 13) rfl ?_
  refine f_iloadN A116 d42_13 (pc' := 14) rfl rfl ?_
  refine f_ldcI A116 d42_14 (pc' := 16) rfl (wd hw 246 rfl) ?_
  refine f_icN A116 d42_16 (flt (by decide : ¬ (2147483639 : Int32) < (34 : Int32))).2.2.1 (pc' := 19) rfl ?_
  refine f_iloadN A116 d42_19 (pc' := 20) rfl rfl ?_
  exact f_retIN A116 hlk hret d42_20 (by decide) (by decide) K0 ⟨rfl, rfl⟩
theorem d41_0 : decode jdk_68_method_10_code 0 = .ok (.aload_n 0, 1) := by decide +kernel
theorem d41_1 : decode jdk_68_method_10_code 1 = .ok (.getfield 15, 3) := by decide +kernel
theorem d41_4 : decode jdk_68_method_10_code 4 = .ok (.arraylength, 1) := by decide +kernel
theorem d41_5 : decode jdk_68_method_10_code 5 = .ok (.istore_n 2, 1) := by decide +kernel
theorem d41_6 : decode jdk_68_method_10_code 6 = .ok (.iload_n 1, 1) := by decide +kernel
theorem d41_7 : decode jdk_68_method_10_code 7 = .ok (.aload_n 0, 1) := by decide +kernel
theorem d41_8 : decode jdk_68_method_10_code 8 = .ok (.getfield 22, 3) := by decide +kernel
theorem d41_11 : decode jdk_68_method_10_code 11 = .ok (.ishl, 1) := by decide +kernel
theorem d41_12 : decode jdk_68_method_10_code 12 = .ok (.istore_n 3, 1) := by decide +kernel
theorem d41_13 : decode jdk_68_method_10_code 13 = .ok (.iload_n 3, 1) := by decide +kernel
theorem d41_14 : decode jdk_68_method_10_code 14 = .ok (.iload_n 2, 1) := by decide +kernel
theorem d41_15 : decode jdk_68_method_10_code 15 = .ok (.isub, 1) := by decide +kernel
theorem d41_16 : decode jdk_68_method_10_code 16 = .ok (.istore 4, 2) := by decide +kernel
theorem d41_18 : decode jdk_68_method_10_code 18 = .ok (.iload_n 2, 1) := by decide +kernel
theorem d41_19 : decode jdk_68_method_10_code 19 = .ok (.iload 4, 2) := by decide +kernel
theorem d41_21 : decode jdk_68_method_10_code 21 = .ok (.iload_n 2, 1) := by decide +kernel
theorem d41_22 : decode jdk_68_method_10_code 22 = .ok (.iconst 2, 1) := by decide +kernel
theorem d41_23 : decode jdk_68_method_10_code 23 = .ok (.aload_n 0, 1) := by decide +kernel
theorem d41_24 : decode jdk_68_method_10_code 24 = .ok (.getfield 22, 3) := by decide +kernel
theorem d41_27 : decode jdk_68_method_10_code 27 = .ok (.ishl, 1) := by decide +kernel
theorem d41_28 : decode jdk_68_method_10_code 28 = .ok (.iadd, 1) := by decide +kernel
theorem d41_29 : decode jdk_68_method_10_code 29 = .ok (.invokestatic 114, 3) := by decide +kernel
theorem pd15 : parseMethodDescriptor "(III)I" = some ⟨[.int, .int, .int], some .int⟩ := by decide +kernel
theorem d41_32 : decode jdk_68_method_10_code 32 = .ok (.istore 5, 2) := by decide +kernel
theorem d41_34 : decode jdk_68_method_10_code 34 = .ok (.iload 5, 2) := by decide +kernel
theorem d41_36 : decode jdk_68_method_10_code 36 = .ok (.ldc 39, 2) := by decide +kernel
theorem d41_38 : decode jdk_68_method_10_code 38 = .ok (.if_icmp .ne 13, 3) := by decide +kernel
theorem d41_51 : decode jdk_68_method_10_code 51 = .ok (.iload 5, 2) := by decide +kernel
theorem d41_53 : decode jdk_68_method_10_code 53 = .ok (.aload_n 0, 1) := by decide +kernel
theorem d41_54 : decode jdk_68_method_10_code 54 = .ok (.getfield 22, 3) := by decide +kernel
theorem d41_57 : decode jdk_68_method_10_code 57 = .ok (.ishr, 1) := by decide +kernel
theorem d41_58 : decode jdk_68_method_10_code 58 = .ok (.ireturn, 1) := by decide +kernel
set_option maxRecDepth 65536 in
set_option maxHeartbeats 40000000 in
theorem m_ncap (l : Launch) (Z : State) (a0 : Array Value) (hw : ∀ d ∈ tables_1, d.before a0 Z = true) (b v : Addr) (kb : ClassId) (cs : List Int32) (mn : Nat) (h0 : Heap) (n0 : Nat) (ho : Old Z n0 h0) (B : SBd Z h0 b v kb 16 cs) (h1 : 16 < mn) (h2 : mn ≤ 33) :
    CN l (⟨"java/lang/AbstractStringBuilder", "newCapacity", "(I)I"⟩ : MethodName) jdk_68_method_10_code 6 (some .int) [] ({ frames := 2, cells := 0, slots := 0, locals := 30 } : Room) Z n0 h0 #[(.ref b), (.int (Int32.ofNat mn))] [] (fun r h => r = some (.int 34) ∧ h = h0) := by
  refine CN.walk (plainFor_of_name pn1) ho (L0 := #[.val (.ref b), .val (.int (Int32.ofNat mn)), .unset, .unset, .unset, .unset]) (fun m => rfl) ?_
  intro pG e s m below meth cO T hlk hret hnm A0
  have K0 : Keep h0 h0 [] := Keep.refl _ _
  obtain ⟨E_, Fv_, Fc_, Fn_, V_, Ev_⟩ := id B
  refine f_aloadN A0 d41_0 (pc' := 1) rfl rfl rfl ?_
  refine f_getF A0 d41_1 (pc' := 4) rfl (host := "") (Or.inl (wd hw 60 rfl)) Via.refl Fv_ fun T117 A117 => ?_
  refine f_arraylength A117 d41_4 (pc' := 5) rfl (show Arv Z h0 v kb .byte (16 : Int32) (pad 16 cs) (.int 0) from V_) ?_
  refine f_istoreN A117 d41_5 (pc' := 6) rfl (L' := #[.val (.ref b), .val (.int (Int32.ofNat mn)), .val (.int (16 : Int32)), .unset, .unset, .unset]) rfl ?_
  refine f_iloadN A117 d41_6 (pc' := 7) rfl rfl ?_
  refine f_aloadN A117 d41_7 (pc' := 8) rfl rfl rfl ?_
  refine f_getF A117 d41_8 (pc' := 11) rfl (host := "") (Or.inl (wd hw 62 rfl)) Via.refl Fc_ fun T118 A118 => ?_
  refine f_ishl A118 d41_11 (pc' := 12) rfl (Int32.ofNat mn) (shl0 _) ?_
  refine f_istoreN A118 d41_12 (pc' := 13) rfl (L' := #[.val (.ref b), .val (.int (Int32.ofNat mn)), .val (.int (16 : Int32)), .val (.int (Int32.ofNat mn)), .unset, .unset]) rfl ?_
  refine f_iloadN A118 d41_13 (pc' := 14) rfl rfl ?_
  refine f_iloadN A118 d41_14 (pc' := 15) rfl rfl ?_
  refine f_isub A118 d41_15 (pc' := 16) rfl (Int32.ofNat (mn - 16)) (ofn_sub (n := 16) (by omega) (by omega)) ?_
  refine f_istore A118 d41_16 (pc' := 18) rfl (L' := #[.val (.ref b), .val (.int (Int32.ofNat mn)), .val (.int (16 : Int32)), .val (.int (Int32.ofNat mn)), .val (.int (Int32.ofNat (mn - 16))), .unset]) rfl ?_
  refine f_iloadN A118 d41_18 (pc' := 19) rfl rfl ?_
  refine f_iload A118 d41_19 (pc' := 21) rfl rfl ?_
  refine f_iloadN A118 d41_21 (pc' := 22) rfl rfl ?_
  refine f_iconst A118 d41_22 (pc' := 23) rfl 2 rfl ?_
  refine f_aloadN A118 d41_23 (pc' := 24) rfl rfl rfl ?_
  refine f_getF A118 d41_24 (pc' := 27) rfl (host := "") (Or.inl (wd hw 62 rfl)) Via.refl Fc_ fun T119 A119 => ?_
  refine f_ishl A119 d41_27 (pc' := 28) rfl (2 : Int32) (by decide) ?_
  refine f_iadd A119 d41_28 (pc' := 29) rfl (18 : Int32) (by decide) ?_
  refine f_callS A119 d41_29 (pc' := 32) rfl (wd hw 239 rfl) (wd hw 240 rfl) (wd hw 241 rfl) (wd hw 242 rfl) (by decide) pd15 [(.int (16 : Int32)), (.int (Int32.ofNat (mn - 16))), (.int (18 : Int32))] [] rfl rfl rfl 0 (Nat.le_of_eq rfl) (CN.pay (W := 0) A119 (m_nlen l Z a0 hw (mn - 16) h0 n0 A119.old (by omega)) (wd hw 242 rfl) (wd hw 241 rfl) (by decide) (by decide)) (kc := 0) (ks := 0) (by decide) (by decide) all0 (fun q => nomatch q) fun v120 T120 h120 L120 A120 K120 q120 => ?_
  obtain ⟨rfl, hh120⟩ := q120
  obtain rfl := hh120.symm
  show Wp pG e below _ T120 (mkF m 32 _ [(.int (34 : Int32))])
  refine f_istore A120 d41_32 (pc' := 34) rfl (L' := #[.val (.ref b), .val (.int (Int32.ofNat mn)), .val (.int (16 : Int32)), .val (.int (Int32.ofNat mn)), .val (.int (Int32.ofNat (mn - 16))), .val (.int (34 : Int32))]) rfl ?_
  refine f_iload A120 d41_34 (pc' := 36) rfl rfl ?_
  refine f_ldcI A120 d41_36 (pc' := 38) rfl (wd hw 247 rfl) ?_
  refine f_icY A120 d41_38 (feq (by decide : ¬ (34 : Int32) = (2147483647 : Int32))).2 (pc' := 51) (by decide) (by decide) ?_
  refine f_iload A120 d41_51 (pc' := 53) rfl rfl ?_
  refine f_aloadN A120 d41_53 (pc' := 54) rfl rfl rfl ?_
  refine f_getF A120 d41_54 (pc' := 57) rfl (host := "") (Or.inl (wd hw 62 rfl)) Via.refl Fc_ fun T121 A121 => ?_
  refine f_ishr A121 d41_57 (pc' := 58) rfl (34 : Int32) (by decide) ?_
  exact f_retIN A121 hlk hret d41_58 (by decide) (by decide) K0 ⟨rfl, rfl⟩
theorem d44_0 : decode jdk_65_method_121_code 0 = .ok (.iload_n 1, 1) := by decide +kernel
theorem d44_1 : decode jdk_65_method_121_code 1 = .ok (.aload_n 0, 1) := by decide +kernel
theorem d44_2 : decode jdk_65_method_121_code 2 = .ok (.arraylength, 1) := by decide +kernel
theorem d44_3 : decode jdk_65_method_121_code 3 = .ok (.if_icmp .ne 11, 3) := by decide +kernel
theorem d44_14 : decode jdk_65_method_121_code 14 = .ok (.iload_n 1, 1) := by decide +kernel
theorem d44_15 : decode jdk_65_method_121_code 15 = .ok (.newarray .byte, 2) := by decide +kernel
theorem d44_17 : decode jdk_65_method_121_code 17 = .ok (.astore_n 2, 1) := by decide +kernel
theorem d44_18 : decode jdk_65_method_121_code 18 = .ok (.aload_n 0, 1) := by decide +kernel
theorem d44_19 : decode jdk_65_method_121_code 19 = .ok (.iconst 0, 1) := by decide +kernel
theorem d44_20 : decode jdk_65_method_121_code 20 = .ok (.aload_n 2, 1) := by decide +kernel
theorem d44_21 : decode jdk_65_method_121_code 21 = .ok (.iconst 0, 1) := by decide +kernel
theorem d44_22 : decode jdk_65_method_121_code 22 = .ok (.aload_n 0, 1) := by decide +kernel
theorem d44_23 : decode jdk_65_method_121_code 23 = .ok (.arraylength, 1) := by decide +kernel
theorem d44_24 : decode jdk_65_method_121_code 24 = .ok (.iload_n 1, 1) := by decide +kernel
theorem d44_25 : decode jdk_65_method_121_code 25 = .ok (.invokestatic 304, 3) := by decide +kernel
theorem d44_28 : decode jdk_65_method_121_code 28 = .ok (.invokestatic 150, 3) := by decide +kernel
theorem d44_31 : decode jdk_65_method_121_code 31 = .ok (.aload_n 2, 1) := by decide +kernel
theorem d44_32 : decode jdk_65_method_121_code 32 = .ok (.areturn, 1) := by decide +kernel
set_option maxRecDepth 65536 in
set_option maxHeartbeats 40000000 in
theorem m_cpo (l : Launch) (Z : State) (a0 : Array Value) (hw : ∀ d ∈ tables_1, d.before a0 Z = true) (v : Addr) (kb : ClassId) (cs : List Int32) (h0 : Heap) (n0 : Nat) (ho : Old Z n0 h0) (V : Arv Z h0 v kb .byte (16 : Int32) (pad 16 cs) (.int 0)) (hcl : cs.length ≤ 16) :
    CN l (⟨"java/util/Arrays", "copyOf", "([BI)[B"⟩ : MethodName) jdk_65_method_121_code 3 (some (.array .byte)) [] ({ frames := 1, cells := 1, slots := 34, locals := 60 } : Room) Z n0 h0 #[(.ref v), (.int (34 : Int32))] [] (fun r h => ∃ (t : Addr) (kt : ClassId), r = some (.ref t) ∧ h0.size ≤ t ∧ Arv Z h t kt .byte (34 : Int32) (pad 34 cs) (.int 0) ∧ Exa Z h t "[B") := by
  refine CN.walk (plainFor_of_name pn3) ho (L0 := #[.val (.ref v), .val (.int (34 : Int32)), .unset]) (fun m => rfl) ?_
  intro pG e s m below meth cO T hlk hret hnm A0
  have K0 : Keep h0 h0 [] := Keep.refl _ _
  refine f_iloadN A0 d44_0 (pc' := 1) rfl rfl ?_
  refine f_aloadN A0 d44_1 (pc' := 2) rfl rfl rfl ?_
  refine f_arraylength A0 d44_2 (pc' := 3) rfl V ?_
  refine f_icY A0 d44_3 (feq (by decide : ¬ (34 : Int32) = 16)).2 (pc' := 14) (by decide) (by decide) ?_
  refine f_iloadN A0 d44_14 (pc' := 15) rfl rfl ?_
  refine f_newP A0 34 d44_15 (pc' := 17) rfl (wd hw 19 rfl) (by decide) (by decide) (by decide) (by decide) (by decide) (ad := "[B") (by decide) fun a122 T122 h122 k122 g122 A122 E122 F122 X122 => ?_
  have z122 : n0 ≤ a122 := Nat.le_trans A0.sz (Nat.le_of_eq g122.symm)
  have y122 : h0.size ≤ a122 := Nat.le_trans K0.1 (Nat.le_of_eq g122.symm)
  have Q123 : Keep h0 h122 [] := K0.ext E122
  have V122 := F122
  refine f_astoreN A122 d44_17 (pc' := 18) rfl rfl (L' := #[.val (.ref v), .val (.int (34 : Int32)), .val (.ref a122)]) rfl ?_
  refine f_aloadN A122 d44_18 (pc' := 19) rfl rfl rfl ?_
  refine f_iconst A122 d44_19 (pc' := 20) rfl 0 rfl ?_
  refine f_aloadN A122 d44_20 (pc' := 21) rfl rfl rfl ?_
  refine f_iconst A122 d44_21 (pc' := 22) rfl 0 rfl ?_
  refine f_aloadN A122 d44_22 (pc' := 23) rfl rfl rfl ?_
  have c124 := (V.ext E122)
  refine f_arraylength A122 d44_23 (pc' := 24) rfl c124 ?_
  refine f_iloadN A122 d44_24 (pc' := 25) rfl rfl ?_
  refine f_callS A122 d44_25 (pc' := 28) rfl (wd hw 176 rfl) (wd hw 177 rfl) (wd hw 178 rfl) (wd hw 179 rfl) (by decide) pd9 [(.int (16 : Int32)), (.int (34 : Int32))] [(.int (0 : Int32)), (.ref a122), (.int (0 : Int32)), (.ref v)] rfl rfl rfl 4 (Nat.le_of_eq rfl) (CN.pay (W := 4) A122 (m_min l Z a0 hw 16 34 h122 n0 A122.old) (wd hw 179 rfl) (wd hw 178 rfl) (by decide) (by decide)) (kc := 0) (ks := 0) (by decide) (by decide) all0 (fun q => nomatch q) fun v125 T125 h125 L125 A125 K125 q125 => ?_
  obtain ⟨e125, hh125⟩ := q125
  obtain rfl := hh125.symm
  rw [if_neg (by decide)] at e125
  subst e125
  show Wp pG e below _ T125 (mkF m 28 _ [(.int (16 : Int32)), (.int (0 : Int32)), (.ref a122), (.int (0 : Int32)), (.ref v)])
  refine f_arrcpy A125 0 d44_28 (pc' := 31) rfl (wd hw 180 rfl) (wd hw 110 rfl) (wd hw 108 rfl) (wd hw 109 rfl) c124 (V122.pad (pad_rep [] (.int 0) 34)) (Or.inl ⟨rfl, rfl⟩) (by decide) (by decide) (by decide) (by decide) (by decide) (us := (pad 16 cs)) (by have e := (rng_get (vs := pad 16 cs) (d := .int 0)).symm; rw [pad_len hcl] at e; exact e) (by decide) (vd' := (pad 34 cs)) (pad_grow hcl) z122 (fun q => nomatch q) rfl (by decide) (Nat.le_of_eq rfl) (by decide) fun T126 h126 L126 A126 K126 V126 => ?_
  have Q127 : Keep h0 h126 [] := Q123.trans K126 (allS (Or.inr y122) all0)
  refine f_aloadN A126 d44_31 (pc' := 32) rfl rfl rfl ?_
  have c128 := (X122.keep K126)
  exact f_retRN A126 hlk hret d44_32 rfl rfl (by decide) (by decide) Q127 ⟨a122, k122, rfl, y122, V126, c128⟩
theorem d15_17 : decode jdk_68_method_9_code 17 = .ok (.aload_n 0, 1) := by decide +kernel
theorem d15_18 : decode jdk_68_method_9_code 18 = .ok (.aload_n 0, 1) := by decide +kernel
theorem d15_19 : decode jdk_68_method_9_code 19 = .ok (.getfield 15, 3) := by decide +kernel
theorem d15_22 : decode jdk_68_method_9_code 22 = .ok (.aload_n 0, 1) := by decide +kernel
theorem d15_23 : decode jdk_68_method_9_code 23 = .ok (.iload_n 1, 1) := by decide +kernel
theorem d15_24 : decode jdk_68_method_9_code 24 = .ok (.invokevirtual 104, 3) := by decide +kernel
theorem pd16 : parseMethodDescriptor "(I)I" = some ⟨[.int], some .int⟩ := by decide +kernel
theorem d15_27 : decode jdk_68_method_9_code 27 = .ok (.aload_n 0, 1) := by decide +kernel
theorem d15_28 : decode jdk_68_method_9_code 28 = .ok (.getfield 22, 3) := by decide +kernel
theorem d15_31 : decode jdk_68_method_9_code 31 = .ok (.ishl, 1) := by decide +kernel
theorem d15_32 : decode jdk_68_method_9_code 32 = .ok (.invokestatic 108, 3) := by decide +kernel
theorem pd17 : parseMethodDescriptor "([BI)[B" = some ⟨[(.array .byte), .int], some (.array .byte)⟩ := by decide +kernel
theorem d15_35 : decode jdk_68_method_9_code 35 = .ok (.putfield 15, 3) := by decide +kernel
set_option maxRecDepth 65536 in
set_option maxHeartbeats 40000000 in
theorem m_ensG (l : Launch) (Z : State) (a0 : Array Value) (hw : ∀ d ∈ tables_1, d.before a0 Z = true) (b v : Addr) (kb : ClassId) (cs : List Int32) (mn : Nat) (h0 : Heap) (n0 : Nat) (ho : Old Z n0 h0) (B : SBd Z h0 b v kb 16 cs) (hcl : cs.length ≤ 16) (h1 : 16 < mn) (h2 : mn ≤ 33) (gb : n0 ≤ b) :
    CN l (⟨"java/lang/AbstractStringBuilder", "ensureCapacityInternal", "(I)V"⟩ : MethodName) jdk_68_method_9_code 3 none [] ({ frames := 3, cells := 1, slots := 34, locals := 80 } : Room) Z n0 h0 #[(.ref b), (.int (Int32.ofNat mn))] [b] (fun r h => r = none ∧ ∃ (u : Addr) (ku : ClassId), n0 ≤ u ∧ h0.size ≤ u ∧ SBd Z h b u ku 34 cs) := by
  refine CN.walk (plainFor_of_name pn1) ho (L0 := #[.val (.ref b), .val (.int (Int32.ofNat mn)), .unset]) (fun m => rfl) ?_
  intro pG e s m below meth cO T hlk hret hnm A0
  have K0 : Keep h0 h0 [b] := Keep.refl _ _
  obtain ⟨E_, Fv_, Fc_, Fn_, V_, Ev_⟩ := id B
  refine f_aloadN A0 d15_0 (pc' := 1) rfl rfl rfl ?_
  refine f_getF A0 d15_1 (pc' := 4) rfl (host := "") (Or.inl (wd hw 60 rfl)) Via.refl Fv_ fun T129 A129 => ?_
  refine f_arraylength A129 d15_4 (pc' := 5) rfl (show Arv Z h0 v kb .byte (16 : Int32) (pad 16 cs) (.int 0) from V_) ?_
  refine f_aloadN A129 d15_5 (pc' := 6) rfl rfl rfl ?_
  refine f_getF A129 d15_6 (pc' := 9) rfl (host := "") (Or.inl (wd hw 62 rfl)) Via.refl Fc_ fun T130 A130 => ?_
  refine f_ishr A130 d15_9 (pc' := 10) rfl (16 : Int32) (by decide) ?_
  refine f_istoreN A130 d15_10 (pc' := 11) rfl (L' := #[.val (.ref b), .val (.int (Int32.ofNat mn)), .val (.int (16 : Int32))]) rfl ?_
  refine f_iloadN A130 d15_11 (pc' := 12) rfl rfl ?_
  refine f_iloadN A130 d15_12 (pc' := 13) rfl rfl ?_
  refine f_isub A130 d15_13 (pc' := 14) rfl (Int32.ofNat mn - 16) rfl ?_
  refine f_ifN A130 d15_14 ((if0 _ _).trans (tlt (ofn_gt0 (b := 16) h1 (by omega))).2.2.2) (pc' := 17) rfl ?_
  refine f_aloadN A130 d15_17 (pc' := 18) rfl rfl rfl ?_
  refine f_aloadN A130 d15_18 (pc' := 19) rfl rfl rfl ?_
  refine f_getF A130 d15_19 (pc' := 22) rfl (host := "") (Or.inl (wd hw 60 rfl)) Via.refl Fv_ fun T131 A131 => ?_
  refine f_aloadN A131 d15_22 (pc' := 23) rfl rfl rfl ?_
  refine f_iloadN A131 d15_23 (pc' := 24) rfl rfl ?_
  refine f_callP A131 (a := b) d15_24 (pc' := 27) rfl (wd hw 234 rfl) (wd hw 235 rfl) (wd hw 236 rfl) (wd hw 237 rfl) (wd hw 238 rfl) (by decide) E_ pd16 [(.int (Int32.ofNat mn))] [(.ref v), (.ref b)] rfl rfl rfl 2 (Nat.le_of_eq rfl) (CN.pay (W := 2) A131 (m_ncap l Z a0 hw b v kb cs mn h0 n0 A131.old B h1 h2) (wd hw 238 rfl) (wd hw 56 rfl) (by decide) (by decide)) (kc := 0) (ks := 0) (by decide) (by decide) all0 (fun q => nomatch q) fun v132 T132 h132 L132 A132 K132 q132 => ?_
  obtain ⟨rfl, hh132⟩ := q132
  obtain rfl := hh132.symm
  show Wp pG e below _ T132 (mkF m 27 _ [(.int (34 : Int32)), (.ref v), (.ref b)])
  refine f_aloadN A132 d15_27 (pc' := 28) rfl rfl rfl ?_
  refine f_getF A132 d15_28 (pc' := 31) rfl (host := "") (Or.inl (wd hw 62 rfl)) Via.refl Fc_ fun T133 A133 => ?_
  refine f_ishl A133 d15_31 (pc' := 32) rfl (34 : Int32) (by decide) ?_
  refine f_callS A133 d15_32 (pc' := 35) rfl (wd hw 248 rfl) (wd hw 249 rfl) (wd hw 168 rfl) (wd hw 250 rfl) (by decide) pd17 [(.ref v), (.int (34 : Int32))] [(.ref b)] rfl rfl rfl 1 (Nat.le_of_eq rfl) (CN.pay (W := 1) A133 (m_cpo l Z a0 hw v kb cs h0 n0 A133.old (show Arv Z h0 v kb .byte (16 : Int32) (pad 16 cs) (.int 0) from V_) hcl) (wd hw 250 rfl) (wd hw 168 rfl) (by decide) (by decide)) (kc := 1) (ks := 34) (by decide) (by decide) all0 (fun q => nomatch q) fun v134 T134 h134 L134 A134 K134 q134 => ?_
  have Q135 : Keep h0 h134 [b] := K0.trans K134 all0
  obtain ⟨t, kt, rfl, gt, V134, Xt⟩ := q134
  show Wp pG e below _ T134 (mkF m 35 _ [(.ref t), (.ref b)])
  have c137 := (Fv_.keep K134 nin0)
  have c138 := (E_.keep K134)
  refine f_putF A134 (.ref t) d15_35 (pc' := 38) rfl (wd hw 60 rfl) Via.refl c137 c138 (Or.inl (wd hw 61 rfl)) (wd hw 47 rfl) (ty := (.array .byte)) (by decide) rfl rfl gb (fun q => nomatch q) fun T136 h136 A136 W136 K136 X136 F136 => ?_
  have c139 := (Fc_.keep K134 nin0)
  have c140 := (Fn_.keep K134 nin0)
  have Q141 : Keep h0 h136 [b] := Q135.trans K136 (allS (Or.inl (List.mem_of_getElem? (i := 0) rfl)) all0)
  have c142 := (V134.keep K136 (ninS (Ne.symm (Nat.ne_of_lt (Nat.lt_of_lt_of_le E_.lt gt))) nin0))
  have c143 := (Xt.keep K136)
  exact f_retN A136 hlk hret d15_38 (by decide) (by decide) Q141 ⟨rfl, t, kt, (Nat.le_trans A133.sz gt), (Nat.le_trans K0.1 gt), X136, F136, (c139.other W136 (Or.inr (slot_ne (Or.inl (wd hw 63 rfl)) (Or.inl (wd hw 61 rfl)) (by decide) (t := .byte) (t' := (.array .byte)) (by decide) (by decide)))), (c140.other W136 (Or.inr (slot_ne (Or.inl (wd hw 85 rfl)) (Or.inl (wd hw 61 rfl)) (by decide) (t := .int) (t' := (.array .byte)) (by decide) (by decide)))), c142, c143⟩
set_option maxRecDepth 65536 in
set_option maxHeartbeats 40000000 in
theorem m_asbAG (l : Launch) (Z : State) (a0 : Array Value) (hw : ∀ d ∈ tables_1, d.before a0 Z = true) (b v : Addr) (kb : ClassId) (cs : List Int32) (x t : Addr) (ds : List Int32) (zc : Int32) (O2 : Sta Z Z.heap "java/lang/String" "COMPACT_STRINGS" "Z" (.int zc)) (P5 : ¬ zc = 0) (h0 : Heap) (n0 : Nat) (ho : Old Z n0 h0) (B : SBd Z h0 b v kb 16 cs) (F : Str Z h0 x t ds) (lat : ∀ c ∈ ds, ¬ (255 : Int32) < c) (hcl : cs.length ≤ 16) (h1 : 16 < cs.length + ds.length) (h2 : cs.length + ds.length ≤ 33) (gb : n0 ≤ b) (nxb : x ≠ b) (ntb : t ≠ b) :
    CN l (⟨"java/lang/AbstractStringBuilder", "append", "(Ljava/lang/String;)Ljava/lang/AbstractStringBuilder;"⟩ : MethodName) jdk_68_method_22_code 3 (some (.object "java/lang/AbstractStringBuilder")) [] ({ frames := 4, cells := 1, slots := 34, locals := 130 } : Room) Z n0 h0 #[(.ref b), (.ref x)] [b] (fun r h => r = some (.ref b) ∧ ∃ (u : Addr) (ku : ClassId), n0 ≤ u ∧ h0.size ≤ u ∧ SBd Z h b u ku 34 (cs ++ ds)) := by
  refine CN.walk (plainFor_of_name pn1) ho (L0 := #[.val (.ref b), .val (.ref x), .unset]) (fun m => rfl) ?_
  intro pG e s m below meth cO T hlk hret hnm A0
  have K0 : Keep h0 h0 [b] := Keep.refl _ _
  obtain ⟨E_, Fv_, Fc_, Fn_, V_, Ev_⟩ := id B
  obtain ⟨kb144, fv144, fc144, av144⟩ := F.openL lat
  have h2' : cs.length + ds.length ≤ 34 := by omega
  refine f_aloadN A0 d12_0 (pc' := 1) rfl rfl rfl ?_
  refine f_nonY A0 d12_1 (pc' := 9) (by decide) (by decide) ?_
  refine f_aloadN A0 d12_9 (pc' := 10) rfl rfl rfl ?_
  refine f_callV A0 (a := x) d12_10 (pc' := 13) rfl (wd hw 74 rfl) (wd hw 75 rfl) (nfS A0 (wd hw 77 rfl)) (wd hw 77 rfl) (wd hw 76 rfl) (by decide) F.exa pd5 [] [] rfl rfl rfl 0 (Nat.le_of_eq rfl) (payLen (W := 0) A0 hw (wd hw 1 rfl) F O2 P5 (by decide) (by decide)) (kc := 0) (ks := 0) (by decide) (by decide) all0 (fun q => nomatch q) fun v145 T145 h145 L145 A145 K145 q145 => ?_
  obtain ⟨rfl, hh145⟩ := q145
  obtain rfl := hh145.symm
  show Wp pG e below _ T145 (mkF m 13 _ [(.int (Int32.ofNat ds.length))])
  refine f_istoreN A145 d12_13 (pc' := 14) rfl (L' := #[.val (.ref b), .val (.ref x), .val (.int (Int32.ofNat ds.length))]) rfl ?_
  refine f_aloadN A145 d12_14 (pc' := 15) rfl rfl rfl ?_
  refine f_aloadN A145 d12_15 (pc' := 16) rfl rfl rfl ?_
  refine f_getF A145 d12_16 (pc' := 19) rfl (host := "") (Or.inl (wd hw 84 rfl)) Via.refl Fn_ fun T146 A146 => ?_
  refine f_iloadN A146 d12_19 (pc' := 20) rfl rfl ?_
  refine f_iadd A146 d12_20 (pc' := 21) rfl (Int32.ofNat (cs.length + ds.length)) (ofn_add (by omega)) ?_
  refine f_callP A146 (a := b) d12_21 (pc' := 24) rfl (wd hw 86 rfl) (wd hw 87 rfl) (wd hw 88 rfl) (wd hw 89 rfl) (wd hw 90 rfl) (by decide) E_ pd1 [(.int (Int32.ofNat (cs.length + ds.length)))] [] rfl rfl rfl 0 (Nat.le_of_eq rfl) (CN.pay (W := 0) A146 (m_ensG l Z a0 hw b v kb cs _ h0 n0 A146.old B hcl h1 h2 gb) (wd hw 90 rfl) (wd hw 56 rfl) (by decide) (by decide)) (kc := 1) (ks := 34) (by decide) (by decide) (allS gb all0) (fun q => nomatch q) fun v147 T147 h147 L147 A147 K147 q147 => ?_
  have Q148 : Keep h0 h147 [b] := K0.trans K147 (allS (Or.inl (List.mem_of_getElem? (i := 0) rfl)) all0)
  obtain ⟨rfl, u, ku, zu, gu, B2⟩ := q147
  obtain ⟨E2_, Fv2_, Fc2_, Fn2_, V2_, Ev2_⟩ := id B2
  show Wp pG e below _ T147 (mkF m 24 _ [])
  refine f_aloadN A147 d12_24 (pc' := 25) rfl rfl rfl ?_
  refine f_aloadN A147 d12_25 (pc' := 26) rfl rfl rfl ?_
  refine f_getF A147 d12_26 (pc' := 29) rfl (host := "") (Or.inl (wd hw 84 rfl)) Via.refl Fn2_ fun T149 A149 => ?_
  refine f_aloadN A149 d12_29 (pc' := 30) rfl rfl rfl ?_
  have c150 := (F.keep K147 (ninS nxb nin0) (ninS ntb nin0))
  refine f_callP A149 (a := b) d12_30 (pc' := 33) rfl (wd hw 91 rfl) (wd hw 92 rfl) (wd hw 93 rfl) (wd hw 94 rfl) (wd hw 95 rfl) (by decide) E2_ pd6 [(.int (Int32.ofNat cs.length)), (.ref x)] [] rfl rfl rfl 0 (Nat.le_of_eq rfl) (CN.pay (W := 0) A149 (m_putS l Z a0 hw b u ku 34 cs x t ds zc O2 P5 h147 n0 A149.old B2 c150 lat h2' (by decide) gb zu (Nat.ne_of_lt (Nat.lt_of_lt_of_le E_.lt gu)) (Nat.ne_of_lt (Nat.lt_of_lt_of_le F.lt' gu))) (wd hw 95 rfl) (wd hw 56 rfl) (by decide) (by decide)) (kc := 0) (ks := 0) (by decide) (by decide) (allS zu all0) (fun q => nomatch q) fun v151 T151 h151 L151 A151 K151 q151 => ?_
  have Q152 : Keep h0 h151 [b] := Q148.trans K151 (allS (Or.inr (Nat.le_trans K0.1 gu)) all0)
  obtain ⟨rfl, V151⟩ := q151
  show Wp pG e below _ T151 (mkF m 33 _ [])
  refine f_aloadN A151 d12_33 (pc' := 34) rfl rfl rfl ?_
  refine f_dup A151 d12_34 (pc' := 35) rfl rfl ?_
  have c154 := (Fn2_.keep K151 (ninS (Nat.ne_of_lt (Nat.lt_of_lt_of_le E_.lt gu)) nin0))
  refine f_getF A151 d12_35 (pc' := 38) rfl (host := "") (Or.inl (wd hw 84 rfl)) Via.refl c154 fun T153 A153 => ?_
  refine f_iloadN A153 d12_38 (pc' := 39) rfl rfl ?_
  refine f_iadd A153 d12_39 (pc' := 40) rfl (Int32.ofNat (cs ++ ds).length) (by rw [ofn_add (by omega), List.length_append]) ?_
  have c156 := (E2_.keep K151)
  refine f_putF A153 (.int (Int32.ofNat (cs ++ ds).length)) d12_40 (pc' := 43) rfl (wd hw 84 rfl) Via.refl c154 c156 (Or.inl (wd hw 85 rfl)) (wd hw 47 rfl) (ty := .int) (by decide) rfl rfl gb (fun q => nomatch q) fun T155 h155 A155 W155 K155 X155 F155 => ?_
  have c157 := (Fv2_.keep K151 (ninS (Nat.ne_of_lt (Nat.lt_of_lt_of_le E_.lt gu)) nin0))
  have c158 := (Fc2_.keep K151 (ninS (Nat.ne_of_lt (Nat.lt_of_lt_of_le E_.lt gu)) nin0))
  have Q159 : Keep h0 h155 [b] := Q152.trans K155 (allS (Or.inl (List.mem_of_getElem? (i := 0) rfl)) all0)
  refine f_aloadN A155 d12_43 (pc' := 44) rfl rfl rfl ?_
  have c160 := (V151.keep K155 (ninS (Ne.symm (Nat.ne_of_lt (Nat.lt_of_lt_of_le E_.lt gu))) nin0))
  have c161 := ((Ev2_.keep K151).keep K155)
  exact f_retRN A155 hlk hret d12_44 rfl rfl (by decide) (by decide) Q159 ⟨rfl, u, ku, zu, (Nat.le_trans K0.1 gu), X155, (c157.other W155 (Or.inr (slot_ne (Or.inl (wd hw 61 rfl)) (Or.inl (wd hw 85 rfl)) (by decide) (t := (.array .byte)) (t' := .int) (by decide) (by decide)))), (c158.other W155 (Or.inr (slot_ne (Or.inl (wd hw 63 rfl)) (Or.inl (wd hw 85 rfl)) (by decide) (t := .byte) (t' := .int) (by decide) (by decide)))), F155, c160, c161⟩
set_option maxRecDepth 65536 in
set_option maxHeartbeats 40000000 in
theorem m_sbAG (l : Launch) (Z : State) (a0 : Array Value) (hw : ∀ d ∈ tables_1, d.before a0 Z = true) (b v : Addr) (kb : ClassId) (cs : List Int32) (x t : Addr) (ds : List Int32) (zc : Int32) (O2 : Sta Z Z.heap "java/lang/String" "COMPACT_STRINGS" "Z" (.int zc)) (P5 : ¬ zc = 0) (h0 : Heap) (n0 : Nat) (ho : Old Z n0 h0) (B : SBd Z h0 b v kb 16 cs) (F : Str Z h0 x t ds) (lat : ∀ c ∈ ds, ¬ (255 : Int32) < c) (hcl : cs.length ≤ 16) (h1 : 16 < cs.length + ds.length) (h2 : cs.length + ds.length ≤ 33) (gb : n0 ≤ b) (nxb : x ≠ b) (ntb : t ≠ b) :
    CN l (⟨"java/lang/StringBuilder", "append", "(Ljava/lang/String;)Ljava/lang/StringBuilder;"⟩ : MethodName) jdk_67_method_7_code 2 (some (.object "java/lang/StringBuilder")) [] ({ frames := 5, cells := 1, slots := 34, locals := 150 } : Room) Z n0 h0 #[(.ref b), (.ref x)] [b] (fun r h => r = some (.ref b) ∧ ∃ (u : Addr) (ku : ClassId), n0 ≤ u ∧ h0.size ≤ u ∧ SBd Z h b u ku 34 (cs ++ ds)) := by
  refine CN.walk (plainFor_of_name pn2) ho (L0 := #[.val (.ref b), .val (.ref x)]) (fun m => rfl) ?_
  intro pG e s m below meth cO T hlk hret hnm A0
  have K0 : Keep h0 h0 [b] := Keep.refl _ _
  refine f_aloadN A0 d11_0 (pc' := 1) rfl rfl rfl ?_
  refine f_aloadN A0 d11_1 (pc' := 2) rfl rfl rfl ?_
  refine f_callU A0 (a := b) d11_2 (pc' := 5) rfl (wd hw 69 rfl) (nfOf (wd hw 89 rfl) rfl) (by decide) (wd hw 70 rfl) (wd hw 71 rfl) (wd hw 73 rfl) (by decide) B.1 pd7 [(.ref x)] [] rfl rfl rfl 0 (Nat.le_of_eq rfl) (CN.pay (W := 0) A0 (m_asbAG l Z a0 hw b v kb cs x t ds zc O2 P5 h0 n0 A0.old B F lat hcl h1 h2 gb nxb ntb) (wd hw 73 rfl) (wd hw 56 rfl) (by decide) (by decide)) (kc := 1) (ks := 34) (by decide) (by decide) (allS gb all0) (fun q => nomatch q) fun v162 T162 h162 L162 A162 K162 q162 => ?_
  have Q163 : Keep h0 h162 [b] := K0.trans K162 (allS (Or.inl (List.mem_of_getElem? (i := 0) rfl)) all0)
  obtain ⟨rfl, u, ku, zu, gu, B2⟩ := q162
  show Wp pG e below _ T162 (mkF m 5 _ [(.ref b)])
  refine f_pop A162 d11_5 (pc' := 6) rfl rfl ?_
  refine f_aloadN A162 d11_6 (pc' := 7) rfl rfl rfl ?_
  exact f_retRN A162 hlk hret d11_7 rfl rfl (by decide) (by decide) Q163 ⟨rfl, u, ku, zu, gu, B2⟩
section OwnStart
variable {s : State} {args : Array Value}
theorem eqI {u : Term} {k : Int32} (he : (Jvm.Cond.eq u (.int k)).value args s none s [] = some true) : u.eval args s none [] s = some (.int k) := by
  obtain ⟨a, b, e1, e2, -, k2⟩ := cmp_v (Or.inl he)
  cases (Term.int_eval k).symm.trans e2
  obtain ⟨z, rfl⟩ := k2
  rw [e1, gotT (Cond.eq_ints e1 (Term.int_eval k)) he]
end OwnStart
theorem cc {P : Jvm.Cond → Prop} {a : Jvm.Cond} {L : List Jvm.Cond} (q : P a) (r : ∀ c ∈ L, P c) : ∀ c ∈ a :: L, P c := fun c z => (List.mem_cons.mp z).elim (fun u => u ▸ q) (r c)
theorem cn {P : Jvm.Cond → Prop} : ∀ c ∈ ([] : List Jvm.Cond), P c := fun _ q => nomatch q
def Dig (Z : State) : Prop := ∃ (st d1 : Addr) (D1 : Cell) (d2 : Addr) (D2 : Cell), Jvm.Free.SBG.Tbl Z "DigitOnes" st d1 D1 ∧ Jvm.Free.SBG.Ones D1 ∧ Jvm.Free.SBG.Tbl Z "DigitTens" st d2 D2 ∧ Jvm.Free.SBG.Tens D2
section OwnDig
open Jvm.Free.SBG Jvm.Free.SB
variable {a : Array Value} {s : State}
theorem bytesOfAll {t rhs : Term} {d : Addr} {D : Cell} {F : Nat → Nat} (hev : ∀ idx, t.eval a s none idx s = some (.ref d)) (harr : s.arrayAt? d = some D) (hsz : D.slots.size = 100) (hr : ∀ r, r < 100 → rhs.eval a s none [r] s = some (.int (Int32.ofNat (F r)))) (hF : ∀ r, r < 100 → F r ≤ 127) (hw : (Jvm.Cond.all t (.eq (.elem t (.index 0)) rhs)).before a s = true) : (bytesC t).before a s = true := by
  refine Cond.before_iff.mpr (Cond.all_intro (hev []) harr fun i hi => ?_)
  have h := Cond.all_elim (hev []) harr (Cond.before_iff.mp hw) i hi
  obtain ⟨x, y, e1, e2, -, k2⟩ := cmp_v (Or.inl h)
  cases (hr i (by omega)).symm.trans e2
  obtain ⟨z, rfl⟩ := k2
  have e := gotT (Cond.eq_ints e1 (hr i (by omega))) h
  subst e
  have q0 := hF i (by omega)
  have q : (Int32.ofNat (F i)).toInt = F i := ofn (by omega)
  have q1 : (-128 : Int32).toInt = -128 := rfl
  have q2 : (127 : Int32).toInt = 127 := rfl
  refine and_i (say (Cond.le_ints (Term.int_eval _) e1) ?_) (say (Cond.le_ints e1 (Term.int_eval _)) ?_)
  · rw [Int32.le_iff_toInt_le, q, q1]; omega
  · rw [Int32.le_iff_toInt_le, q, q2]; omega
theorem digW {name : String} {rhs : Term} {F : Nat → Nat} (we : (Jvm.Cond.exactly (Tof name) "[B").before a s = true) (wn : (Jvm.Cond.eq (.length (Tof name)) (.int 100)).before a s = true) (hr : ∀ r, r < 100 → rhs.eval a s none [r] s = some (.int (Int32.ofNat (F r)))) (hF : ∀ r, r < 100 → F r ≤ 127) (wo : (Jvm.Cond.all (Tof name) (.eq (.elem (Tof name) (.index 0)) rhs)).before a s = true) : (bytesC (Tof name)).before a s = true := by
  obtain ⟨d, hev⟩ := exa_v (Cond.before_iff.mp we)
  have hevAll : ∀ idx, (Tof name).eval a s none idx s = some (.ref d) := fun idx => by
    have : (Tof name).eval a s none idx s = (Tof name).eval a s none [] s := by simp only [Tof, Term.eval]
    rw [this]; exact hev
  obtain ⟨d', D, e1, e2, e3, e4⟩ := Jvm.Free.SB.Term.length_small (eqI (Cond.before_iff.mp wn))
  cases hev.symm.trans e1
  have hsz : D.slots.size = 100 := by
    have q := congrArg Int32.toInt (Value.int.inj e3); rw [len_toInt e4] at q; have : (100 : Int32).toInt = 100 := rfl; omega
  exact bytesOfAll hevAll e2 hsz hr hF wo
theorem Dig.start (l1 : (Jvm.Cond.laysStatic "java/lang/Integer" "DigitOnes" "[B").before a s = true) (x1 : (Jvm.Cond.exactly (Tof "DigitOnes") "[B").before a s = true) (n1 : (Jvm.Cond.eq (.length (Tof "DigitOnes")) (.int 100)).before a s = true) (o1 : onesW.before a s = true)
    (l2 : (Jvm.Cond.laysStatic "java/lang/Integer" "DigitTens" "[B").before a s = true) (x2 : (Jvm.Cond.exactly (Tof "DigitTens") "[B").before a s = true) (n2 : (Jvm.Cond.eq (.length (Tof "DigitTens")) (.int 100)).before a s = true) (o2 : tensW.before a s = true)
    (hini : (Jvm.Cond.initialized "java/lang/Integer").before a s = true) (harr : (Jvm.Cond.arrayClass .byte).before a s = true) : Dig s := by
  have b1 := digW x1 n1 (F := fun r => 48 + r % 10) (fun r hr => by rw [← ones_num r hr]; rfl) (fun r hr => by omega) o1
  have b2 := digW x2 n2 (F := fun r => 48 + r / 10) (fun r hr => by rw [← tens_num r hr]; rfl) (fun r hr => by omega) o2
  obtain ⟨c, k, st, d, D, h1, h2, h3, hT, hO⟩ := ones_of_words (a := a) (s := s) (cc l1 (cc x1 (cc n1 (cc b1 cn)))) o1 hini harr
  obtain ⟨c', k', st', d', D', h1', h2', h3', hT', hO'⟩ := tens_of_words (a := a) (s := s) (cc l2 (cc x2 (cc n2 (cc b2 cn)))) o2 hini harr
  cases h1.symm.trans h1'
  cases h2.symm.trans h2'
  cases h3.symm.trans h3'
  exact ⟨st, d, D, d', D', hT, hO, hT', hO'⟩
def dlist (n m : Nat) : List Int32 := (List.range m).map fun t => Int32.ofNat (48 + n / 10 ^ (m - 1 - t) % 10)
theorem dlist_len (n m : Nat) : (dlist n m).length = m := by simp [dlist]
theorem dlist_get {n m t : Nat} (h : t < m) : (dlist n m).getD t 0 = Int32.ofNat (48 + n / 10 ^ (m - 1 - t) % 10) := by simp [dlist, List.getD_eq_getElem?_getD, h]
theorem dlist_rng {n m : Nat} : ∀ c ∈ dlist n m, ¬ c < 0 ∧ ¬ (255 : Int32) < c := fun c hc => by
  simp only [dlist, List.mem_map] at hc
  obtain ⟨t, -, rfl⟩ := hc
  have q : 48 + n / 10 ^ (m - 1 - t) % 10 < 58 := by have := Nat.mod_lt (n / 10 ^ (m - 1 - t)) (show 0 < 10 by omega); omega
  rw [lt_i, lt_i, ofn (by omega)]; have e1 : (255 : Int32).toInt = 255 := rfl; have e2 : (0 : Int32).toInt = 0 := rfl; omega
theorem pad_get {cap : Nat} {cs : List Int32} (j : Nat) : (pad cap cs).getD j (.int 0) = .int (StrChars.lo8 (cs.getD j 0)) := by
  by_cases h : j < cs.length
  · simp [pad, List.getD_eq_getElem?_getD, List.getElem?_append_left, h]
  · have e : cs.getD j 0 = 0 := by simp [List.getD_eq_getElem?_getD, List.getElem?_eq_none (Nat.le_of_not_lt h)]
    rw [e, List.getD_eq_getElem?_getD, pad, List.getElem?_append_right (by simpa using Nat.le_of_not_lt h)]
    rw [List.getElem?_replicate]; split <;> rfl
theorem getD_app1 {A B : List Int32} {j : Nat} (h : j < A.length) : (A ++ B).getD j 0 = A.getD j 0 := by simp [List.getD_eq_getElem?_getD, List.getElem?_append_left h]
theorem getD_app2 {A B : List Int32} {j : Nat} (h : A.length ≤ j) : (A ++ B).getD j 0 = B.getD (j - A.length) 0 := by simp [List.getD_eq_getElem?_getD, List.getElem?_append_right h]
theorem getD_out {A : List Int32} {j : Nat} (h : A.length ≤ j) : A.getD j 0 = 0 := by simp [List.getD_eq_getElem?_getD, List.getElem?_eq_none h]
theorem lo_dg {d : Nat} (h : d < 128) : StrChars.lo8 (Int32.ofNat d) = Int32.ofNat d := dgNarrow d h
end OwnDig
def ldL (x : Int64) (n : Nat) : List Int32 := (if x < 0 then [45] else []) ++ dlist n (Jvm.Free.SBG.digitsL n)
section OwnDigL
open Jvm.Free.SBG Jvm.Free.SB
theorem ldL_len (x : Int64) (n : Nat) : (ldL x n).length = Jvm.Free.SBG.digitsL n + GetCharsL.sgnL x := by
  unfold ldL GetCharsL.sgnL; split <;> simp [dlist_len] <;> omega
theorem ldL_lat (x : Int64) (n : Nat) : ∀ c ∈ ldL x n, ¬ c < 0 ∧ ¬ (255 : Int32) < c := by
  unfold ldL; split
  · exact la (lc (by decide) ln) dlist_rng
  · exact la ln dlist_rng
theorem own_wL {n : Nat} (hn : n ≤ 2 ^ 63) : Jvm.Free.SBG.wN 10 n = Jvm.Free.SBG.digitsL n := rfl
variable {p : Program} {l : Launch} {e : Env} {R : Room} {s : State} {m : MethodId} {args : Array Value} {below : List Frame} {meth : Method} {c : Code} {Z : State} {EL : List (String × Nat)} {n0 : Nat} {own : String} {code : ByteArray} {ml : Nat} {bw : Bool} {vm : Vm} {T : State} {h h' : Heap} {locs : List Loc} {cells slots : Nat} {a0 : Array Value} {W : Nat}
theorem paySzL (A : WS p l e R s m args below meth c Z EL n0 own code ml bw vm T h locs cells slots) {x : Int64} {n : Nat} (hn : n ≤ 2 ^ 63) (hx : (if x < 0 then x else -x) = negL n) (wt : ∀ b : Array Value, StrSizeL.tab.before b (s.setVm vm) = true) (wi : (Jvm.Cond.initialized "java/lang/Long").before a0 Z = true) (hfr : 2 ≤ R.frames) (hlo : W + 57 ≤ R.locals) :
    BkN l R p e below (s.setVm vm) args (⟨"java/lang/Long", "stringSize", "(J)I"⟩ : MethodName) 3 W #[.long x] h n0 [] (fun r h' => r = some (.int (Int32.ofNat (ldL x n).length)) ∧ h' = h) 0 0 := by
  refine Back.mono (StrSizeL.pays (W := W) hfr (by omega) (wt _) (mvT A.hZ wi)) (fun B a hp => ⟨hp.2.2.1, hp.2.2.2, x, hp.1⟩) (fun B a v B' hp hq => ?_)
  obtain ⟨⟨u1, u2, u3, u4⟩, q⟩ := hq
  have q' := q x hp.1
  rw [strSizeOfL_eq hn hx, ← ldL_len] at q'
  exact ⟨[], ⟨Fr.nil n0, by rw [u1, hp.2.1]; exact Keep.refl _ _, q', u1.trans hp.2.1⟩, by rw [u2, List.append_nil], u3, u4⟩
theorem payGcL (A : WS p l e R s m args below meth c Z EL n0 own code ml bw vm T h locs cells slots) {x : Int64} {n cap : Nat} {v : Addr} {kb : ClassId} {cs : List Int32} (hD : Dig Z) (hn : n ≤ 2 ^ 63) (hx : (if x < 0 then x else -x) = negL n) (wt : ∀ (U : State), Z.Warmed39 U.vm → ∀ b : Array Value, GetCharsL.tab.before b U = true) (wi : (Jvm.Cond.initialized "java/lang/Long").before a0 Z = true)
    (V : Arv Z h v kb .byte (Int32.ofNat cap) (pad cap cs) (.int 0)) (hcap : cs.length + (ldL x n).length ≤ cap) (hb : cap < 2147483648) (gv : n0 ≤ v) (hfr : 2 ≤ R.frames) (hlo : W + 102 ≤ R.locals) :
    BkN l R p e below (s.setVm vm) args (⟨"java/lang/Long", "getChars", "(JI[B)I"⟩ : MethodName) 3 W #[.long x, .int (Int32.ofNat (cs.length + (ldL x n).length)), .ref v] h n0 [v] (fun r h' => (∃ z, r = some (.int z)) ∧ Arv Z h' v kb .byte (Int32.ofNat cap) (pad cap (cs ++ ldL x n)) (.int 0)) 0 0 := by
  obtain ⟨c, Ar, hk, hsz, hnn, H, hf⟩ := V
  obtain ⟨st, d1, D1, d2, D2, t1, o1, t2, o2⟩ := hD
  have el := ldL_len x n
  have hszc : c.slots.size = cap := by rw [hsz]; exact ofn_clamp hb
  have hZs : Z.heap.size ≤ v := A.old.1 ▸ gv
  have far : ∀ {b : Addr} {cl : Cell}, Z.heap[b]? = some cl → v ≠ b := fun q e => absurd (Array.getElem?_eq_some_iff.mp q).1 (by rw [← e]; exact Nat.not_lt.mpr hZs)
  have hst : ∃ cl, Z.heap[st]? = some cl := by obtain ⟨_, _, _, _, cl, -, -, -, -, q, -⟩ := t1; exact ⟨cl, q⟩
  have hd1 : Z.heap[d1]? = some D1 := by obtain ⟨_, _, _, _, _, -, -, -, -, -, -, -, q, -⟩ := t1; exact q
  have hd2 : Z.heap[d2]? = some D2 := by obtain ⟨_, _, _, _, _, -, -, -, -, -, -, -, q, -⟩ := t2; exact q
  obtain ⟨cst, hst⟩ := hst
  have up : ∀ {b : Addr} {cl : Cell}, Z.heap[b]? = some cl → h[b]? = some cl := fun q => A.old.2.2 _ _ q
  have hby : ∀ i, i < c.slots.size → fits .byte (c.slots.getD i .null) = true := fun i hi => by rw [getD_of (H i hi)]; exact hf i hi
  obtain ⟨idx, hidx⟩ : ∃ idx, idx = cs.length + (ldL x n).length := ⟨_, rfl⟩
  obtain ⟨g, hg⟩ : ∃ g : GetCharsL.G, g = ⟨x, n, idx, v, c, st, d1, D1, d2, D2⟩ := ⟨_, rfl⟩
  have hroom : Jvm.Free.SBG.digitsL n + GetCharsL.sgnL x ≤ idx := by omega
  have oc := GetCharsL.outCell_facts g (by rw [hg]; exact hn) (by rw [hg]; exact hroom) (by rw [hg]; exact hby)
  have dl := digLoop_at o1 o2 10 c n idx (by show n < 100 ^ 10; omega) (by rw [own_wL hn]; omega) (by omega)
  have df := digLoop_facts D1 D2 10 c n idx
  rw [own_wL hn] at dl df
  have HH : Has (GetCharsL.outCell g) (pad cap (cs ++ ldL x n)) (.int 0) := fun j hj => by
    rw [pad_get]
    rw [oc.2.2.1] at hj
    have hj : j < c.slots.size := by rw [hg] at hj; exact hj
    have keep : (j < cs.length ∨ idx ≤ j) → (GetCharsL.outCell g).slots[j]? = some (.int (StrChars.lo8 ((cs ++ ldL x n).getD j 0))) := fun q => by
      rw [oc.2.2.2.2 j (by rw [hg]; show j < idx - (Jvm.Free.SBG.digitsL n + GetCharsL.sgnL x) ∨ idx ≤ j; omega)]
      have q2 := H j hj
      rw [pad_get] at q2
      rw [show g.A = c by rw [hg], q2]
      rcases q with q | q
      · rw [getD_app1 q]
      · rw [getD_out (by omega), getD_out (by rw [List.length_append]; omega)]
    by_cases q1 : j < cs.length ∨ idx ≤ j
    · exact keep q1
    · rw [getD_app2 (by omega)]
      by_cases hx0 : x < 0
      · have hs1 : GetCharsL.sgnL x = 1 := by simp [GetCharsL.sgnL, hx0]
        rw [show GetCharsL.outCell g = put (digLoop D1 D2 10 c n idx).1 ((digLoop D1 D2 10 c n idx).2 - 1) 45 by rw [hg]; simp only [GetCharsL.outCell, if_pos hx0]]
        rw [show ldL x n = 45 :: dlist n (Jvm.Free.SBG.digitsL n) by simp [ldL, hx0], put_at, df.2.2.2]
        by_cases q2 : j = cs.length
        · rw [if_pos ⟨by omega, by omega⟩, q2, Nat.sub_self]; rfl
        · rw [if_neg (by omega)]
          have q3 := dl.1 (idx - 1 - j) (by omega)
          rw [show idx - 1 - (idx - 1 - j) = j by omega] at q3
          rw [q3, show j - cs.length = (j - cs.length - 1) + 1 by omega, List.getD_cons_succ, dlist_get (by omega), lo_dg (by have := Nat.mod_lt (n / 10 ^ (Jvm.Free.SBG.digitsL n - 1 - (j - cs.length - 1))) (show 0 < 10 by omega); omega)]
          rw [show Jvm.Free.SBG.digitsL n - 1 - (j - cs.length - 1) = idx - 1 - j by omega]
      · have hs0 : GetCharsL.sgnL x = 0 := by simp [GetCharsL.sgnL, hx0]
        rw [show GetCharsL.outCell g = (digLoop D1 D2 10 c n idx).1 by rw [hg]; simp only [GetCharsL.outCell, if_neg hx0]]
        rw [show ldL x n = dlist n (Jvm.Free.SBG.digitsL n) by simp [ldL, hx0]]
        have q3 := dl.1 (idx - 1 - j) (by omega)
        rw [show idx - 1 - (idx - 1 - j) = j by omega] at q3
        rw [q3, dlist_get (by omega), lo_dg (by have := Nat.mod_lt (n / 10 ^ (Jvm.Free.SBG.digitsL n - 1 - (j - cs.length))) (show 0 < 10 by omega); omega)]
        rw [show Jvm.Free.SBG.digitsL n - 1 - (j - cs.length) = idx - 1 - j by omega]
  refine Back.of_free (S := GetCharsL.spec) (P := GetCharsL.P g) (K := fun _ _ _ _ _ => True) (Q := GetCharsL.Q g) (bytes := GetCharsL.gcB) (maxL := 11) (ret := some .int)
    (E := fun a first o t L k n' => k = 0 ∧ n' = 0 ∧ (∃ z, o = .returned (some (.int z))) ∧ t.heap[v]? = some (GetCharsL.outCell g) ∧ (∀ w ∈ L, w.base = v) ∧ ∀ (y : Addr) (cy : Cell), y ≠ v → first.heap[y]? = some cy → t.heap[y]? = some cy)
    (GetCharsL.gets l g) (by show 1 + 1 ≤ R.frames; omega) (by show W + (11 + 11) + 80 ≤ R.locals; omega) ?_ ?_ (fun _ _ _ _ _ _ _ _ _ => trivial) ?_ ?_
  · intro m' meth' c' B a Y hp
    have hU : Z.Warmed39 B.U.vm := wtrans (s := s.setVm vm) A.hZ Y.warmed
    obtain ⟨rfl, hh, hc, hs⟩ := hp
    have ht := wt B.U hU #[.long x, .int (Int32.ofNat (cs.length + (ldL x n).length)), .ref v]
    have hcode := ht
    simp only [GetCharsL.tab, Cond.before_and, Bool.and_eq_true] at hcode
    refine ⟨?_, hcode.1, mv hU wi, hc, hs⟩
    simp only [GetCharsL.spec, Cond.before_and, Bool.and_eq_true]
    exact ⟨by simp [Cond.before, Cond.holds, Cond.value], by simpa only [GetCharsL.tab, Cond.before_and, Bool.and_eq_true] using ht⟩
  · intro m' meth' c' B a g' mk Y hp
    have hU : Z.Warmed39 B.U.vm := wtrans (s := s.setVm vm) A.hZ Y.warmed
    obtain ⟨rfl, hh, hc, hs⟩ := hp
    rw [State.calling_eq Y.here.top]
    have key : GetCharsL.P g #[.long x, .int (Int32.ofNat (cs.length + (ldL x n).length)), .ref v] B.U := by
      subst hg; subst hidx
      exact ⟨rfl, by rw [hh]; exact Ar.1, State.isArrayOf_alike hU.alike Ar.2.1, Ar.2.2, by show c.slots.size < 2 ^ 31; omega, by show cs.length + (ldL x n).length ≤ c.slots.size; omega, hroom, hn, hx, t1.move hU.alike (fun c q => by rw [hh]; exact up q) (by rw [hh]; exact up hd1), t2.move hU.alike (fun c q => by rw [hh]; exact up q) (by rw [hh]; exact up hd2), far hst, far hd1, far hd2⟩
    exact GetCharsL.P.move (Vm.Alike.refl _) rfl key
  · rintro a first o t ⟨ho, ht, hkeep, L, hL, hfe⟩
    have ev : g.da = v := by rw [hg]
    rw [ev] at ht hkeep hL
    exact ⟨L, 0, 0, hfe, rfl, rfl, ⟨_, ho⟩, ht, hL, hkeep⟩
  · intro m' meth' c' B a g' mk r t L k n' Y hp _ hfe hE
    obtain ⟨rfl, hh, hc, hs⟩ := hp
    obtain ⟨rfl, rfl, ⟨z, ho⟩, ht, hL, hkeep⟩ := hE
    have eh : (B.U.calling g' mk #[.long x, .int (Int32.ofNat (cs.length + (ldL x n).length)), .ref v]).heap = h := by rw [State.calling_eq Y.here.top]; exact hh
    obtain ⟨-, -, hsb⟩ := hfe
    have hsz' : h.size ≤ t.heap.size := by have := hsb.2.1; rw [eh] at this; exact this
    rw [eh] at hkeep
    have eA : g.A = c := by rw [hg]
    rw [eA] at oc
    have KK : Keep h t.heap [v] := ⟨hsz', fun y cy hy hm => hkeep y cy (fun q => hm (by simp [q])) hy, fun y cy hy => by
      by_cases q : y = v
      · subst q; cases hy.symm.trans Ar.1; exact ⟨_, ht, oc.1, oc.2.1, oc.2.2.1⟩
      · exact ⟨cy, hkeep y cy q hy, rfl, rfl, rfl⟩⟩
    refine ⟨L, ⟨fun w hw => by rw [hL w hw]; exact gv, KK, ⟨z, Outcome.returned.inj ho⟩, GetCharsL.outCell g, ⟨ht, ⟨by rw [oc.2.1]; exact Ar.2.1.1, by rw [oc.1]; exact Ar.2.1.2⟩, by rw [oc.2.1]; exact Ar.2.2⟩, oc.1.trans hk, oc.2.2.1.trans hsz, hnn, HH, fun i hi => ?_⟩, rfl, rfl, rfl⟩
    have q := oc.2.2.2.1 i hi
    rwa [getD_of (HH i hi)] at q
end OwnDigL
theorem tabSzL {Z U : State} {a0 : Array Value} (hZ : Z.Warmed39 U.vm) (hw : ∀ d ∈ tables_1, d.before a0 Z = true) (b : Array Value) : Jvm.Free.SBG.StrSizeL.tab.before b U = true := by
  simp only [Jvm.Free.SBG.StrSizeL.tab, Cond.before_and, Bool.and_eq_true]
  exact ⟨mv hZ (wd hw 126 rfl), mv hZ (wd hw 127 rfl), mv hZ (wd hw 231 rfl)⟩
theorem tabGcL {Z U : State} {a0 : Array Value} (hZ : Z.Warmed39 U.vm) (hw : ∀ d ∈ tables_1, d.before a0 Z = true) (b : Array Value) : Jvm.Free.SBG.GetCharsL.tab.before b U = true := by
  simp only [Jvm.Free.SBG.GetCharsL.tab, Cond.before_and, Bool.and_eq_true]
  exact ⟨mv hZ (wd hw 135 rfl), mv hZ (wd hw 137 rfl), mv hZ (wd hw 232 rfl), mv hZ (wd hw 136 rfl), mv hZ (wd hw 258 rfl)⟩
theorem d20_0 : decode jdk_68_method_33_code 0 = .ok (.aload_n 0, 1) := by decide +kernel
theorem d20_1 : decode jdk_68_method_33_code 1 = .ok (.getfield 79, 3) := by decide +kernel
theorem d20_4 : decode jdk_68_method_33_code 4 = .ok (.istore_n 3, 1) := by decide +kernel
theorem d20_5 : decode jdk_68_method_33_code 5 = .ok (.iload_n 3, 1) := by decide +kernel
theorem d20_6 : decode jdk_68_method_33_code 6 = .ok (.lload_n 1, 1) := by decide +kernel
theorem d20_7 : decode jdk_68_method_33_code 7 = .ok (.invokestatic 254, 3) := by decide +kernel
theorem pd18 : parseMethodDescriptor "(J)I" = some ⟨[.long], some .int⟩ := by decide +kernel
theorem d20_10 : decode jdk_68_method_33_code 10 = .ok (.iadd, 1) := by decide +kernel
theorem d20_11 : decode jdk_68_method_33_code 11 = .ok (.istore 4, 2) := by decide +kernel
theorem d20_13 : decode jdk_68_method_33_code 13 = .ok (.aload_n 0, 1) := by decide +kernel
theorem d20_14 : decode jdk_68_method_33_code 14 = .ok (.iload 4, 2) := by decide +kernel
theorem d20_16 : decode jdk_68_method_33_code 16 = .ok (.invokevirtual 100, 3) := by decide +kernel
theorem d20_19 : decode jdk_68_method_33_code 19 = .ok (.aload_n 0, 1) := by decide +kernel
theorem d20_20 : decode jdk_68_method_33_code 20 = .ok (.invokevirtual 83, 3) := by decide +kernel
theorem d20_23 : decode jdk_68_method_33_code 23 = .ok (.ifCond .eq 17, 3) := by decide +kernel
theorem d20_26 : decode jdk_68_method_33_code 26 = .ok (.lload_n 1, 1) := by decide +kernel
theorem d20_27 : decode jdk_68_method_33_code 27 = .ok (.iload 4, 2) := by decide +kernel
theorem d20_29 : decode jdk_68_method_33_code 29 = .ok (.aload_n 0, 1) := by decide +kernel
theorem d20_30 : decode jdk_68_method_33_code 30 = .ok (.getfield 15, 3) := by decide +kernel
theorem d20_33 : decode jdk_68_method_33_code 33 = .ok (.invokestatic 259, 3) := by decide +kernel
theorem pd19 : parseMethodDescriptor "(JI[B)I" = some ⟨[.long, .int, (.array .byte)], some .int⟩ := by decide +kernel
theorem d20_36 : decode jdk_68_method_33_code 36 = .ok (.pop, 1) := by decide +kernel
theorem d20_37 : decode jdk_68_method_33_code 37 = .ok (.goto 15, 3) := by decide +kernel
theorem d20_52 : decode jdk_68_method_33_code 52 = .ok (.aload_n 0, 1) := by decide +kernel
theorem d20_53 : decode jdk_68_method_33_code 53 = .ok (.iload 4, 2) := by decide +kernel
theorem d20_55 : decode jdk_68_method_33_code 55 = .ok (.putfield 79, 3) := by decide +kernel
theorem d20_58 : decode jdk_68_method_33_code 58 = .ok (.aload_n 0, 1) := by decide +kernel
theorem d20_59 : decode jdk_68_method_33_code 59 = .ok (.areturn, 1) := by decide +kernel
set_option maxRecDepth 65536 in
set_option maxHeartbeats 40000000 in
theorem m_asbJ0 (l : Launch) (Z : State) (a0 : Array Value) (hw : ∀ d ∈ tables_1, d.before a0 Z = true) (b v : Addr) (kb : ClassId) (cap : Nat) (cs : List Int32) (x : Int64) (n : Nat) (zc : Int32) (O2 : Sta Z Z.heap "java/lang/String" "COMPACT_STRINGS" "Z" (.int zc)) (P5 : ¬ zc = 0) (h0 : Heap) (n0 : Nat) (ho : Old Z n0 h0) (B : SBd Z h0 b v kb cap cs) (hD : Dig Z) (hn : n ≤ 2 ^ 63) (hx : (if x < 0 then x else -x) = Jvm.Free.SBG.negL n) (hcap : (cs.length + (ldL x n).length) ≤ cap) (hb : cap < 2147483648) (gb : n0 ≤ b) (gv : n0 ≤ v) (nbv : b ≠ v) :
    CN l (⟨"java/lang/AbstractStringBuilder", "append", "(J)Ljava/lang/AbstractStringBuilder;"⟩ : MethodName) jdk_68_method_33_code 5 (some (.object "java/lang/AbstractStringBuilder")) [] ({ frames := 4, cells := 0, slots := 0, locals := 130 } : Room) Z n0 h0 #[(.ref b), (.long x)] [b, v] (fun r h => r = some (.ref b) ∧ SBd Z h b v kb cap (cs ++ (ldL x n))) := by
  refine CN.walk (plainFor_of_name pn1) ho (L0 := #[.val (.ref b), .val (.long x), .second, .unset, .unset]) (fun m => rfl) ?_
  intro pG e s m below meth cO T hlk hret hnm A0
  have K0 : Keep h0 h0 [b, v] := Keep.refl _ _
  have etot : (cs.length + (ldL x n).length) = (cs ++ (ldL x n)).length := List.length_append.symm
  obtain ⟨E_, Fv_, Fc_, Fn_, V_, Ev_⟩ := id B
  refine f_aloadN A0 d20_0 (pc' := 1) rfl rfl rfl ?_
  refine f_getF A0 d20_1 (pc' := 4) rfl (host := "") (Or.inl (wd hw 84 rfl)) Via.refl Fn_ fun T164 A164 => ?_
  refine f_istoreN A164 d20_4 (pc' := 5) rfl (L' := #[.val (.ref b), .val (.long x), .second, .val (.int (Int32.ofNat cs.length)), .unset]) rfl ?_
  refine f_iloadN A164 d20_5 (pc' := 6) rfl rfl ?_
  refine f_lloadN A164 d20_6 (pc' := 7) rfl rfl ?_
  refine f_callS A164 d20_7 (pc' := 10) rfl (wd hw 123 rfl) (wd hw 124 rfl) (wd hw 125 rfl) (wd hw 126 rfl) (by decide) pd18 [(.long x)] [(.int (Int32.ofNat cs.length))] rfl rfl rfl 1 (Nat.le_of_eq rfl) (paySzL (W := 1) A164 hn hx (fun b => tabSzL A164.hZ hw b) (wd hw 125 rfl) (by decide) (by decide)) (kc := 0) (ks := 0) (by decide) (by decide) all0 (fun q => nomatch q) fun v165 T165 h165 L165 A165 K165 q165 => ?_
  obtain ⟨rfl, hh165⟩ := q165
  obtain rfl := hh165.symm
  show Wp pG e below _ T165 (mkF m 10 _ [(.int (Int32.ofNat (ldL x n).length)), (.int (Int32.ofNat cs.length))])
  refine f_iadd A165 d20_10 (pc' := 11) rfl (Int32.ofNat (cs.length + (ldL x n).length)) (ofn_add (by omega)) ?_
  refine f_istore A165 d20_11 (pc' := 13) rfl (L' := #[.val (.ref b), .val (.long x), .second, .val (.int (Int32.ofNat cs.length)), .val (.int (Int32.ofNat (cs.length + (ldL x n).length)))]) rfl ?_
  refine f_aloadN A165 d20_13 (pc' := 14) rfl rfl rfl ?_
  refine f_iload A165 d20_14 (pc' := 16) rfl rfl ?_
  refine f_callP A165 (a := b) d20_16 (pc' := 19) rfl (wd hw 86 rfl) (wd hw 87 rfl) (wd hw 88 rfl) (wd hw 89 rfl) (wd hw 90 rfl) (by decide) E_ pd1 [(.int (Int32.ofNat (cs.length + (ldL x n).length)))] [] rfl rfl rfl 0 (Nat.le_of_eq rfl) (CN.pay (W := 0) A165 (m_ens l Z a0 hw b v kb cap cs _ h0 n0 A165.old B hcap hb) (wd hw 90 rfl) (wd hw 56 rfl) (by decide) (by decide)) (kc := 0) (ks := 0) (by decide) (by decide) all0 (fun q => nomatch q) fun v166 T166 h166 L166 A166 K166 q166 => ?_
  obtain ⟨rfl, hh166⟩ := q166
  obtain rfl := hh166.symm
  show Wp pG e below _ T166 (mkF m 19 _ [])
  refine f_aloadN A166 d20_19 (pc' := 20) rfl rfl rfl ?_
  refine f_callV A166 (a := b) d20_20 (pc' := 23) rfl (wd hw 128 rfl) (wd hw 129 rfl) (nfS A166 (wd hw 131 rfl)) (wd hw 131 rfl) (wd hw 130 rfl) (by decide) E_ pd12 [] [] rfl rfl rfl 0 (Nat.le_of_eq rfl) (CN.pay (W := 0) A166 (m_asbLat l Z a0 hw b v kb cap cs zc O2 P5 h0 n0 A166.old B) (wd hw 132 rfl) (wd hw 56 rfl) (by decide) (by decide)) (kc := 0) (ks := 0) (by decide) (by decide) all0 (fun q => nomatch q) fun v167 T167 h167 L167 A167 K167 q167 => ?_
  obtain ⟨rfl, hh167⟩ := q167
  obtain rfl := hh167.symm
  show Wp pG e below _ T167 (mkF m 23 _ [(.int (1 : Int32))])
  refine f_ifN A167 d20_23 ((if0 _ _).trans (feq (by decide : ¬ (1 : Int32) = (0 : Int32))).1) (pc' := 26) rfl ?_
  refine f_lloadN A167 d20_26 (pc' := 27) rfl rfl ?_
  refine f_iload A167 d20_27 (pc' := 29) rfl rfl ?_
  refine f_aloadN A167 d20_29 (pc' := 30) rfl rfl rfl ?_
  refine f_getF A167 d20_30 (pc' := 33) rfl (host := "") (Or.inl (wd hw 60 rfl)) Via.refl Fv_ fun T168 A168 => ?_
  refine f_callS A168 d20_33 (pc' := 36) rfl (wd hw 133 rfl) (wd hw 134 rfl) (wd hw 125 rfl) (wd hw 135 rfl) (by decide) pd19 [(.long x), (.int (Int32.ofNat (cs.length + (ldL x n).length))), (.ref v)] [] rfl rfl rfl 0 (Nat.le_of_eq rfl) (payGcL (W := 0) A168 hD hn hx (fun U hU b => tabGcL hU hw b) (wd hw 125 rfl) V_ hcap hb gv (by decide) (by decide)) (kc := 0) (ks := 0) (by decide) (by decide) (allS gv all0) (fun q => nomatch q) fun v169 T169 h169 L169 A169 K169 q169 => ?_
  have Q170 : Keep h0 h169 [b, v] := K0.trans K169 (allS (Or.inl (List.mem_of_getElem? (i := 1) rfl)) all0)
  obtain ⟨⟨z169, rfl⟩, V169⟩ := q169
  show Wp pG e below _ T169 (mkF m 36 _ [(.int z169)])
  refine f_pop A169 d20_36 (pc' := 37) rfl rfl ?_
  refine f_goto A169 d20_37 (pc' := 52) (by decide) (by decide) ?_
  refine f_aloadN A169 d20_52 (pc' := 53) rfl rfl rfl ?_
  refine f_iload A169 d20_53 (pc' := 55) rfl rfl ?_
  rw [etot]
  have c172 := (Fn_.keep K169 (ninS nbv nin0))
  have c173 := (E_.keep K169)
  refine f_putF A169 (.int (Int32.ofNat (cs ++ (ldL x n)).length)) d20_55 (pc' := 58) rfl (wd hw 84 rfl) Via.refl c172 c173 (Or.inl (wd hw 85 rfl)) (wd hw 47 rfl) (ty := .int) (by decide) rfl rfl gb (fun q => nomatch q) fun T171 h171 A171 W171 K171 X171 F171 => ?_
  have c174 := (Fv_.keep K169 (ninS nbv nin0))
  have c175 := (Fc_.keep K169 (ninS nbv nin0))
  have Q176 : Keep h0 h171 [b, v] := Q170.trans K171 (allS (Or.inl (List.mem_of_getElem? (i := 0) rfl)) all0)
  refine f_aloadN A171 d20_58 (pc' := 59) rfl rfl rfl ?_
  have c177 := (V169.keep K171 (ninS (Ne.symm nbv) nin0))
  have c178 := ((Ev_.keep K169).keep K171)
  exact f_retRN A171 hlk hret d20_59 rfl rfl (by decide) (by decide) Q176 ⟨rfl, X171, (c174.other W171 (Or.inr (slot_ne (Or.inl (wd hw 61 rfl)) (Or.inl (wd hw 85 rfl)) (by decide) (t := (.array .byte)) (t' := .int) (by decide) (by decide)))), (c175.other W171 (Or.inr (slot_ne (Or.inl (wd hw 63 rfl)) (Or.inl (wd hw 85 rfl)) (by decide) (t := .byte) (t' := .int) (by decide) (by decide)))), F171, c177, c178⟩
theorem d19_0 : decode jdk_67_method_16_code 0 = .ok (.aload_n 0, 1) := by decide +kernel
theorem d19_1 : decode jdk_67_method_16_code 1 = .ok (.lload_n 1, 1) := by decide +kernel
theorem d19_2 : decode jdk_67_method_16_code 2 = .ok (.invokespecial 56, 3) := by decide +kernel
theorem pd20 : parseMethodDescriptor "(J)Ljava/lang/AbstractStringBuilder;" = some ⟨[.long], some (.object "java/lang/AbstractStringBuilder")⟩ := by decide +kernel
theorem d19_5 : decode jdk_67_method_16_code 5 = .ok (.pop, 1) := by decide +kernel
theorem d19_6 : decode jdk_67_method_16_code 6 = .ok (.aload_n 0, 1) := by decide +kernel
theorem d19_7 : decode jdk_67_method_16_code 7 = .ok (.areturn, 1) := by decide +kernel
set_option maxRecDepth 65536 in
set_option maxHeartbeats 40000000 in
theorem m_sbJ0 (l : Launch) (Z : State) (a0 : Array Value) (hw : ∀ d ∈ tables_1, d.before a0 Z = true) (b v : Addr) (kb : ClassId) (cap : Nat) (cs : List Int32) (x : Int64) (n : Nat) (zc : Int32) (O2 : Sta Z Z.heap "java/lang/String" "COMPACT_STRINGS" "Z" (.int zc)) (P5 : ¬ zc = 0) (h0 : Heap) (n0 : Nat) (ho : Old Z n0 h0) (B : SBd Z h0 b v kb cap cs) (hD : Dig Z) (hn : n ≤ 2 ^ 63) (hx : (if x < 0 then x else -x) = Jvm.Free.SBG.negL n) (hcap : (cs.length + (ldL x n).length) ≤ cap) (hb : cap < 2147483648) (gb : n0 ≤ b) (gv : n0 ≤ v) (nbv : b ≠ v) :
    CN l (⟨"java/lang/StringBuilder", "append", "(J)Ljava/lang/StringBuilder;"⟩ : MethodName) jdk_67_method_16_code 3 (some (.object "java/lang/StringBuilder")) [] ({ frames := 5, cells := 0, slots := 0, locals := 150 } : Room) Z n0 h0 #[(.ref b), (.long x)] [b, v] (fun r h => r = some (.ref b) ∧ SBd Z h b v kb cap (cs ++ (ldL x n))) := by
  refine CN.walk (plainFor_of_name pn2) ho (L0 := #[.val (.ref b), .val (.long x), .second]) (fun m => rfl) ?_
  intro pG e s m below meth cO T hlk hret hnm A0
  have K0 : Keep h0 h0 [b, v] := Keep.refl _ _
  refine f_aloadN A0 d19_0 (pc' := 1) rfl rfl rfl ?_
  refine f_lloadN A0 d19_1 (pc' := 2) rfl rfl ?_
  refine f_callU A0 (a := b) d19_2 (pc' := 5) rfl (wd hw 119 rfl) (nfOf (wd hw 89 rfl) rfl) (by decide) (wd hw 120 rfl) (wd hw 71 rfl) (wd hw 122 rfl) (by decide) B.1 pd20 [(.long x)] [] rfl rfl rfl 0 (Nat.le_of_eq rfl) (CN.pay (W := 0) A0 (m_asbJ0 l Z a0 hw b v kb cap cs x n zc O2 P5 h0 n0 A0.old B hD hn hx hcap hb gb gv nbv) (wd hw 122 rfl) (wd hw 56 rfl) (by decide) (by decide)) (kc := 0) (ks := 0) (by decide) (by decide) (allS gb (allS gv all0)) (fun q => nomatch q) fun v179 T179 h179 L179 A179 K179 q179 => ?_
  have Q180 : Keep h0 h179 [b, v] := K0.trans K179 (allS (Or.inl (List.mem_of_getElem? (i := 0) rfl)) (allS (Or.inl (List.mem_of_getElem? (i := 1) rfl)) all0))
  obtain ⟨rfl, B2⟩ := q179
  show Wp pG e below _ T179 (mkF m 5 _ [(.ref b)])
  refine f_pop A179 d19_5 (pc' := 6) rfl rfl ?_
  refine f_aloadN A179 d19_6 (pc' := 7) rfl rfl rfl ?_
  exact f_retRN A179 hlk hret d19_7 rfl rfl (by decide) (by decide) Q180 ⟨rfl, B2⟩
set_option maxRecDepth 65536 in
set_option maxHeartbeats 40000000 in
theorem m_asbJ1 (l : Launch) (Z : State) (a0 : Array Value) (hw : ∀ d ∈ tables_1, d.before a0 Z = true) (b v : Addr) (kb : ClassId) (cs : List Int32) (x : Int64) (n : Nat) (zc : Int32) (O2 : Sta Z Z.heap "java/lang/String" "COMPACT_STRINGS" "Z" (.int zc)) (P5 : ¬ zc = 0) (h0 : Heap) (n0 : Nat) (ho : Old Z n0 h0) (B : SBd Z h0 b v kb 16 cs) (hD : Dig Z) (hn : n ≤ 2 ^ 63) (hx : (if x < 0 then x else -x) = Jvm.Free.SBG.negL n) (hcl : cs.length ≤ 16) (h1 : 16 < (cs.length + (ldL x n).length)) (h2 : (cs.length + (ldL x n).length) ≤ 33) (gb : n0 ≤ b) :
    CN l (⟨"java/lang/AbstractStringBuilder", "append", "(J)Ljava/lang/AbstractStringBuilder;"⟩ : MethodName) jdk_68_method_33_code 5 (some (.object "java/lang/AbstractStringBuilder")) [] ({ frames := 4, cells := 1, slots := 34, locals := 130 } : Room) Z n0 h0 #[(.ref b), (.long x)] [b] (fun r h => r = some (.ref b) ∧ ∃ (u : Addr) (ku : ClassId), n0 ≤ u ∧ h0.size ≤ u ∧ SBd Z h b u ku 34 (cs ++ (ldL x n))) := by
  refine CN.walk (plainFor_of_name pn1) ho (L0 := #[.val (.ref b), .val (.long x), .second, .unset, .unset]) (fun m => rfl) ?_
  intro pG e s m below meth cO T hlk hret hnm A0
  have K0 : Keep h0 h0 [b] := Keep.refl _ _
  have etot : (cs.length + (ldL x n).length) = (cs ++ (ldL x n)).length := List.length_append.symm
  obtain ⟨E_, Fv_, Fc_, Fn_, V_, Ev_⟩ := id B
  refine f_aloadN A0 d20_0 (pc' := 1) rfl rfl rfl ?_
  refine f_getF A0 d20_1 (pc' := 4) rfl (host := "") (Or.inl (wd hw 84 rfl)) Via.refl Fn_ fun T181 A181 => ?_
  refine f_istoreN A181 d20_4 (pc' := 5) rfl (L' := #[.val (.ref b), .val (.long x), .second, .val (.int (Int32.ofNat cs.length)), .unset]) rfl ?_
  refine f_iloadN A181 d20_5 (pc' := 6) rfl rfl ?_
  refine f_lloadN A181 d20_6 (pc' := 7) rfl rfl ?_
  refine f_callS A181 d20_7 (pc' := 10) rfl (wd hw 123 rfl) (wd hw 124 rfl) (wd hw 125 rfl) (wd hw 126 rfl) (by decide) pd18 [(.long x)] [(.int (Int32.ofNat cs.length))] rfl rfl rfl 1 (Nat.le_of_eq rfl) (paySzL (W := 1) A181 hn hx (fun b => tabSzL A181.hZ hw b) (wd hw 125 rfl) (by decide) (by decide)) (kc := 0) (ks := 0) (by decide) (by decide) all0 (fun q => nomatch q) fun v182 T182 h182 L182 A182 K182 q182 => ?_
  obtain ⟨rfl, hh182⟩ := q182
  obtain rfl := hh182.symm
  show Wp pG e below _ T182 (mkF m 10 _ [(.int (Int32.ofNat (ldL x n).length)), (.int (Int32.ofNat cs.length))])
  refine f_iadd A182 d20_10 (pc' := 11) rfl (Int32.ofNat (cs.length + (ldL x n).length)) (ofn_add (by omega)) ?_
  refine f_istore A182 d20_11 (pc' := 13) rfl (L' := #[.val (.ref b), .val (.long x), .second, .val (.int (Int32.ofNat cs.length)), .val (.int (Int32.ofNat (cs.length + (ldL x n).length)))]) rfl ?_
  refine f_aloadN A182 d20_13 (pc' := 14) rfl rfl rfl ?_
  refine f_iload A182 d20_14 (pc' := 16) rfl rfl ?_
  refine f_callP A182 (a := b) d20_16 (pc' := 19) rfl (wd hw 86 rfl) (wd hw 87 rfl) (wd hw 88 rfl) (wd hw 89 rfl) (wd hw 90 rfl) (by decide) E_ pd1 [(.int (Int32.ofNat (cs.length + (ldL x n).length)))] [] rfl rfl rfl 0 (Nat.le_of_eq rfl) (CN.pay (W := 0) A182 (m_ensG l Z a0 hw b v kb cs _ h0 n0 A182.old B hcl h1 h2 gb) (wd hw 90 rfl) (wd hw 56 rfl) (by decide) (by decide)) (kc := 1) (ks := 34) (by decide) (by decide) (allS gb all0) (fun q => nomatch q) fun v183 T183 h183 L183 A183 K183 q183 => ?_
  have Q184 : Keep h0 h183 [b] := K0.trans K183 (allS (Or.inl (List.mem_of_getElem? (i := 0) rfl)) all0)
  obtain ⟨rfl, u, ku, zu, gu, B2⟩ := q183
  obtain ⟨E2_, Fv2_, Fc2_, Fn2_, V2_, Ev2_⟩ := id B2
  show Wp pG e below _ T183 (mkF m 19 _ [])
  refine f_aloadN A183 d20_19 (pc' := 20) rfl rfl rfl ?_
  refine f_callV A183 (a := b) d20_20 (pc' := 23) rfl (wd hw 128 rfl) (wd hw 129 rfl) (nfS A183 (wd hw 131 rfl)) (wd hw 131 rfl) (wd hw 130 rfl) (by decide) E2_ pd12 [] [] rfl rfl rfl 0 (Nat.le_of_eq rfl) (CN.pay (W := 0) A183 (m_asbLat l Z a0 hw b u ku 34 cs zc O2 P5 h183 n0 A183.old B2) (wd hw 132 rfl) (wd hw 56 rfl) (by decide) (by decide)) (kc := 0) (ks := 0) (by decide) (by decide) all0 (fun q => nomatch q) fun v185 T185 h185 L185 A185 K185 q185 => ?_
  obtain ⟨rfl, hh185⟩ := q185
  obtain rfl := hh185.symm
  show Wp pG e below _ T185 (mkF m 23 _ [(.int (1 : Int32))])
  refine f_ifN A185 d20_23 ((if0 _ _).trans (feq (by decide : ¬ (1 : Int32) = (0 : Int32))).1) (pc' := 26) rfl ?_
  refine f_lloadN A185 d20_26 (pc' := 27) rfl rfl ?_
  refine f_iload A185 d20_27 (pc' := 29) rfl rfl ?_
  refine f_aloadN A185 d20_29 (pc' := 30) rfl rfl rfl ?_
  refine f_getF A185 d20_30 (pc' := 33) rfl (host := "") (Or.inl (wd hw 60 rfl)) Via.refl Fv2_ fun T186 A186 => ?_
  refine f_callS A186 d20_33 (pc' := 36) rfl (wd hw 133 rfl) (wd hw 134 rfl) (wd hw 125 rfl) (wd hw 135 rfl) (by decide) pd19 [(.long x), (.int (Int32.ofNat (cs.length + (ldL x n).length))), (.ref u)] [] rfl rfl rfl 0 (Nat.le_of_eq rfl) (payGcL (W := 0) A186 hD hn hx (fun U hU b => tabGcL hU hw b) (wd hw 125 rfl) V2_ (by omega) (by decide) zu (by decide) (by decide)) (kc := 0) (ks := 0) (by decide) (by decide) (allS zu all0) (fun q => nomatch q) fun v187 T187 h187 L187 A187 K187 q187 => ?_
  have Q188 : Keep h0 h187 [b] := Q184.trans K187 (allS (Or.inr (Nat.le_trans K0.1 gu)) all0)
  obtain ⟨⟨z187, rfl⟩, V187⟩ := q187
  show Wp pG e below _ T187 (mkF m 36 _ [(.int z187)])
  refine f_pop A187 d20_36 (pc' := 37) rfl rfl ?_
  refine f_goto A187 d20_37 (pc' := 52) (by decide) (by decide) ?_
  refine f_aloadN A187 d20_52 (pc' := 53) rfl rfl rfl ?_
  refine f_iload A187 d20_53 (pc' := 55) rfl rfl ?_
  rw [etot]
  have c190 := (Fn2_.keep K187 (ninS (Nat.ne_of_lt (Nat.lt_of_lt_of_le E_.lt gu)) nin0))
  have c191 := (E2_.keep K187)
  refine f_putF A187 (.int (Int32.ofNat (cs ++ (ldL x n)).length)) d20_55 (pc' := 58) rfl (wd hw 84 rfl) Via.refl c190 c191 (Or.inl (wd hw 85 rfl)) (wd hw 47 rfl) (ty := .int) (by decide) rfl rfl gb (fun q => nomatch q) fun T189 h189 A189 W189 K189 X189 F189 => ?_
  have c192 := (Fv2_.keep K187 (ninS (Nat.ne_of_lt (Nat.lt_of_lt_of_le E_.lt gu)) nin0))
  have c193 := (Fc2_.keep K187 (ninS (Nat.ne_of_lt (Nat.lt_of_lt_of_le E_.lt gu)) nin0))
  have Q194 : Keep h0 h189 [b] := Q188.trans K189 (allS (Or.inl (List.mem_of_getElem? (i := 0) rfl)) all0)
  refine f_aloadN A189 d20_58 (pc' := 59) rfl rfl rfl ?_
  have c195 := (V187.keep K189 (ninS (Ne.symm (Nat.ne_of_lt (Nat.lt_of_lt_of_le E_.lt gu))) nin0))
  have c196 := ((Ev2_.keep K187).keep K189)
  exact f_retRN A189 hlk hret d20_59 rfl rfl (by decide) (by decide) Q194 ⟨rfl, u, ku, zu, (Nat.le_trans K0.1 gu), X189, (c192.other W189 (Or.inr (slot_ne (Or.inl (wd hw 61 rfl)) (Or.inl (wd hw 85 rfl)) (by decide) (t := (.array .byte)) (t' := .int) (by decide) (by decide)))), (c193.other W189 (Or.inr (slot_ne (Or.inl (wd hw 63 rfl)) (Or.inl (wd hw 85 rfl)) (by decide) (t := .byte) (t' := .int) (by decide) (by decide)))), F189, c195, c196⟩
set_option maxRecDepth 65536 in
set_option maxHeartbeats 40000000 in
theorem m_sbJ1 (l : Launch) (Z : State) (a0 : Array Value) (hw : ∀ d ∈ tables_1, d.before a0 Z = true) (b v : Addr) (kb : ClassId) (cs : List Int32) (x : Int64) (n : Nat) (zc : Int32) (O2 : Sta Z Z.heap "java/lang/String" "COMPACT_STRINGS" "Z" (.int zc)) (P5 : ¬ zc = 0) (h0 : Heap) (n0 : Nat) (ho : Old Z n0 h0) (B : SBd Z h0 b v kb 16 cs) (hD : Dig Z) (hn : n ≤ 2 ^ 63) (hx : (if x < 0 then x else -x) = Jvm.Free.SBG.negL n) (hcl : cs.length ≤ 16) (h1 : 16 < (cs.length + (ldL x n).length)) (h2 : (cs.length + (ldL x n).length) ≤ 33) (gb : n0 ≤ b) :
    CN l (⟨"java/lang/StringBuilder", "append", "(J)Ljava/lang/StringBuilder;"⟩ : MethodName) jdk_67_method_16_code 3 (some (.object "java/lang/StringBuilder")) [] ({ frames := 5, cells := 1, slots := 34, locals := 150 } : Room) Z n0 h0 #[(.ref b), (.long x)] [b] (fun r h => r = some (.ref b) ∧ ∃ (u : Addr) (ku : ClassId), n0 ≤ u ∧ h0.size ≤ u ∧ SBd Z h b u ku 34 (cs ++ (ldL x n))) := by
  refine CN.walk (plainFor_of_name pn2) ho (L0 := #[.val (.ref b), .val (.long x), .second]) (fun m => rfl) ?_
  intro pG e s m below meth cO T hlk hret hnm A0
  have K0 : Keep h0 h0 [b] := Keep.refl _ _
  refine f_aloadN A0 d19_0 (pc' := 1) rfl rfl rfl ?_
  refine f_lloadN A0 d19_1 (pc' := 2) rfl rfl ?_
  refine f_callU A0 (a := b) d19_2 (pc' := 5) rfl (wd hw 119 rfl) (nfOf (wd hw 89 rfl) rfl) (by decide) (wd hw 120 rfl) (wd hw 71 rfl) (wd hw 122 rfl) (by decide) B.1 pd20 [(.long x)] [] rfl rfl rfl 0 (Nat.le_of_eq rfl) (CN.pay (W := 0) A0 (m_asbJ1 l Z a0 hw b v kb cs x n zc O2 P5 h0 n0 A0.old B hD hn hx hcl h1 h2 gb) (wd hw 122 rfl) (wd hw 56 rfl) (by decide) (by decide)) (kc := 1) (ks := 34) (by decide) (by decide) (allS gb all0) (fun q => nomatch q) fun v197 T197 h197 L197 A197 K197 q197 => ?_
  have Q198 : Keep h0 h197 [b] := K0.trans K197 (allS (Or.inl (List.mem_of_getElem? (i := 0) rfl)) all0)
  obtain ⟨rfl, u, ku, zu, gu, B2⟩ := q197
  show Wp pG e below _ T197 (mkF m 5 _ [(.ref b)])
  refine f_pop A197 d19_5 (pc' := 6) rfl rfl ?_
  refine f_aloadN A197 d19_6 (pc' := 7) rfl rfl rfl ?_
  exact f_retRN A197 hlk hret d19_7 rfl rfl (by decide) (by decide) Q198 ⟨rfl, u, ku, zu, gu, B2⟩
theorem pn5 : plainName "com/example/await_in_turn/awaitinturn/QueueEntry" = true := by first | (simp [plainName, overriddenIn]; done) | decide +kernel
theorem d7_0 : decode prog_10_method_1_code 0 = .ok (.aload_n 0, 1) := by decide +kernel
theorem d7_1 : decode prog_10_method_1_code 1 = .ok (.invokespecial 1, 3) := by decide +kernel
theorem d7_4 : decode prog_10_method_1_code 4 = .ok (.aload_n 0, 1) := by decide +kernel
theorem d7_5 : decode prog_10_method_1_code 5 = .ok (.aload_n 1, 1) := by decide +kernel
theorem d7_6 : decode prog_10_method_1_code 6 = .ok (.putfield 7, 3) := by decide +kernel
theorem d7_9 : decode prog_10_method_1_code 9 = .ok (.aload_n 0, 1) := by decide +kernel
theorem d7_10 : decode prog_10_method_1_code 10 = .ok (.lload_n 2, 1) := by decide +kernel
theorem d7_11 : decode prog_10_method_1_code 11 = .ok (.putfield 13, 3) := by decide +kernel
theorem d7_14 : decode prog_10_method_1_code 14 = .ok (.return_, 1) := by decide +kernel
set_option maxRecDepth 65536 in
set_option maxHeartbeats 40000000 in
theorem m_qi (l : Launch) (Z : State) (a0 : Array Value) (hw : ∀ d ∈ tables_1, d.before a0 Z = true) (b x : Addr) (tk : Int64) (h0 : Heap) (n0 : Nat) (ho : Old Z n0 h0) (E : Exa Z h0 b "com/example/await_in_turn/awaitinturn/QueueEntry") (Fi : Fld Z h0 b "com/example/await_in_turn/awaitinturn/QueueEntry" "id" "Ljava/lang/String;" .null) (Ft : Fld Z h0 b "com/example/await_in_turn/awaitinturn/QueueEntry" "token" "J" (.long 0)) (gb : n0 ≤ b) :
    CN l (⟨"com/example/await_in_turn/awaitinturn/QueueEntry", "<init>", "(Ljava/lang/String;J)V"⟩ : MethodName) prog_10_method_1_code 4 none [] ({ frames := 1, cells := 0, slots := 0, locals := 20 } : Room) Z n0 h0 #[(.ref b), (.ref x), (.long tk)] [b] (fun r h => r = none ∧ Exa Z h b "com/example/await_in_turn/awaitinturn/QueueEntry" ∧ Fld Z h b "com/example/await_in_turn/awaitinturn/QueueEntry" "id" "Ljava/lang/String;" (.ref x) ∧ Fld Z h b "com/example/await_in_turn/awaitinturn/QueueEntry" "token" "J" (.long tk)) := by
  refine CN.walk (plainFor_of_name pn5) ho (L0 := #[.val (.ref b), .val (.ref x), .val (.long tk), .second]) (fun m => rfl) ?_
  intro pG e s m below meth cO T hlk hret hnm A0
  have K0 : Keep h0 h0 [b] := Keep.refl _ _
  refine f_aloadN A0 d7_0 (pc' := 1) rfl rfl rfl ?_
  refine f_initO A0 (W := 0) d7_1 (pc' := 4) rfl (wd hw 36 rfl) (wd hw 12 rfl) (wd hw 13 rfl) rfl (by decide) (Nat.le_of_eq rfl) (by decide) fun T199 A199 => ?_
  refine f_aloadN A199 d7_4 (pc' := 5) rfl rfl rfl ?_
  refine f_aloadN A199 d7_5 (pc' := 6) rfl rfl rfl ?_
  refine f_putF A199 (.ref x) d7_6 (pc' := 9) rfl (wd hw 37 rfl) Via.refl Fi E (Or.inr ⟨(wd hw 38 rfl), rfl, hnm⟩) (wd hw 31 rfl) (ty := (.object "java/lang/String")) (by decide) rfl rfl gb (fun q => nomatch q) fun T200 h200 A200 W200 K200 X200 F200 => ?_
  have Q201 : Keep h0 h200 [b] := K0.trans K200 (allS (Or.inl (List.mem_of_getElem? (i := 0) rfl)) all0)
  refine f_aloadN A200 d7_9 (pc' := 10) rfl rfl rfl ?_
  refine f_lloadN A200 d7_10 (pc' := 11) rfl rfl ?_
  refine f_putF A200 (.long tk) d7_11 (pc' := 14) rfl (wd hw 39 rfl) Via.refl (Ft.other W200 (Or.inr (slot_ne (Or.inr (wd hw 40 rfl)) (Or.inr (wd hw 38 rfl)) (by decide) (t := .long) (t' := (.object "java/lang/String")) (by decide) (by decide)))) X200 (Or.inr ⟨(wd hw 40 rfl), rfl, hnm⟩) (wd hw 31 rfl) (ty := .long) (by decide) rfl rfl gb (fun q => nomatch q) fun T202 h202 A202 W202 K202 X202 F202 => ?_
  have Q203 : Keep h0 h202 [b] := Q201.trans K202 (allS (Or.inl (List.mem_of_getElem? (i := 0) rfl)) all0)
  exact f_retN A202 hlk hret d7_14 (by decide) (by decide) Q203 ⟨rfl, X202, (F200.other W202 (Or.inr (slot_ne (Or.inr (wd hw 38 rfl)) (Or.inr (wd hw 40 rfl)) (by decide) (t := (.object "java/lang/String")) (t' := .long) (by decide) (by decide)))), F202⟩
theorem d8_0 : decode prog_10_method_4_code 0 = .ok (.new 17, 3) := by decide +kernel
theorem d8_3 : decode prog_10_method_4_code 3 = .ok (.dup, 1) := by decide +kernel
theorem d8_4 : decode prog_10_method_4_code 4 = .ok (.invokespecial 19, 3) := by decide +kernel
theorem pd21 : parseMethodDescriptor "()V" = some ⟨[], none⟩ := by decide +kernel
theorem d8_7 : decode prog_10_method_4_code 7 = .ok (.aload_n 0, 1) := by decide +kernel
theorem d8_8 : decode prog_10_method_4_code 8 = .ok (.getfield 7, 3) := by decide +kernel
theorem d8_11 : decode prog_10_method_4_code 11 = .ok (.invokevirtual 20, 3) := by decide +kernel
theorem pd22 : parseMethodDescriptor "(Ljava/lang/String;)Ljava/lang/StringBuilder;" = some ⟨[(.object "java/lang/String")], some (.object "java/lang/StringBuilder")⟩ := by decide +kernel
theorem d8_14 : decode prog_10_method_4_code 14 = .ok (.ldc 24, 2) := by decide +kernel
theorem d8_16 : decode prog_10_method_4_code 16 = .ok (.invokevirtual 20, 3) := by decide +kernel
theorem d8_19 : decode prog_10_method_4_code 19 = .ok (.aload_n 0, 1) := by decide +kernel
theorem d8_20 : decode prog_10_method_4_code 20 = .ok (.getfield 13, 3) := by decide +kernel
theorem d8_23 : decode prog_10_method_4_code 23 = .ok (.invokevirtual 26, 3) := by decide +kernel
theorem pd23 : parseMethodDescriptor "(J)Ljava/lang/StringBuilder;" = some ⟨[.long], some (.object "java/lang/StringBuilder")⟩ := by decide +kernel
theorem d8_26 : decode prog_10_method_4_code 26 = .ok (.ldc 29, 2) := by decide +kernel
theorem d8_28 : decode prog_10_method_4_code 28 = .ok (.invokevirtual 20, 3) := by decide +kernel
theorem d8_31 : decode prog_10_method_4_code 31 = .ok (.invokevirtual 31, 3) := by decide +kernel
theorem pd24 : parseMethodDescriptor "()Ljava/lang/String;" = some ⟨[], some (.object "java/lang/String")⟩ := by decide +kernel
theorem d8_34 : decode prog_10_method_4_code 34 = .ok (.areturn, 1) := by decide +kernel
set_option maxRecDepth 65536 in
set_option maxHeartbeats 40000000 in
theorem m_qts (l : Launch) (Z : State) (a0 : Array Value) (hw : ∀ d ∈ tables_1, d.before a0 Z = true) (q x t : Addr) (ids : List Int32) (tk : Int64) (n : Nat) (zc : Int32) (O2 : Sta Z Z.heap "java/lang/String" "COMPACT_STRINGS" "Z" (.int zc)) (P5 : ¬ zc = 0) (h0 : Heap) (n0 : Nat) (ho : Old Z n0 h0) (hEL : EW Z a0 ELs) (E : Exa Z h0 q "com/example/await_in_turn/awaitinturn/QueueEntry") (Fi : Fld Z h0 q "com/example/await_in_turn/awaitinturn/QueueEntry" "id" "Ljava/lang/String;" (.ref x)) (Ft : Fld Z h0 q "com/example/await_in_turn/awaitinturn/QueueEntry" "token" "J" (.long tk)) (F : Str Z h0 x t ids) (hid : ∀ c ∈ ids, ¬ c < 0 ∧ ¬ (255 : Int32) < c) (hil : ids.length ≤ 3) (hD : Dig Z) (hn : n ≤ 2 ^ 63) (hx : (if tk < 0 then tk else -tk) = Jvm.Free.SBG.negL n) :
    CW l (⟨"com/example/await_in_turn/awaitinturn/QueueEntry", "toString", "()Ljava/lang/String;"⟩ : MethodName) prog_10_method_4_code 1 (some (.object "java/lang/String")) [] ({ frames := 7, cells := 12, slots := 260, locals := 200 } : Room) Z ELs [] n0 h0 #[(.ref q)] [] (fun r h => ∃ (a b : Addr), r = some (.ref a) ∧ h0.size ≤ a ∧ Str Z h a b (ids ++ [(32 : Int32), (40 : Int32), (116 : Int32), (111 : Int32), (107 : Int32), (101 : Int32), (110 : Int32), (32 : Int32)] ++ ldL tk n ++ [(41 : Int32)])) := by
  refine CW.walk (plainFor_of_name pn5) ho (L0 := #[.val (.ref q)]) (fun m => rfl) ?_
  intro pG e s m below meth cO T hlk hret hnm hSL A0
  have K0 : Keep h0 h0 [] := Keep.refl _ _
  have hll := ldL_len tk n
  have hdp := Jvm.Free.SBG.digitsL_pos n
  have hsg : Jvm.Free.SBG.GetCharsL.sgnL tk ≤ 1 := by unfold Jvm.Free.SBG.GetCharsL.sgnL; split <;> omega
  have hlat := ldL_lat tk n
  refine f_new A0 d8_0 (pc' := 3) rfl (wd hw 46 rfl) (wd hw 47 rfl) (wd hw 48 rfl) (by decide) (by decide) fun a204 T204 h204 g204 A204 E204 X204 D204 => ?_
  have z204 : n0 ≤ a204 := Nat.le_trans A0.sz (Nat.le_of_eq g204.symm)
  have y204 : h0.size ≤ a204 := Nat.le_trans K0.1 (Nat.le_of_eq g204.symm)
  have Q205 : Keep h0 h204 [] := K0.ext E204
  refine f_dup A204 d8_3 (pc' := 4) rfl rfl ?_
  refine f_callI A204 (a := a204) d8_4 (pc' := 7) rfl rfl (wd hw 49 rfl) (wd hw 50 rfl) (wd hw 51 rfl) (by decide) pd21 [] [(.ref a204)] rfl rfl rfl 1 (Nat.le_of_eq rfl) (CN.pay (W := 1) A204 (m_sbI l Z a0 hw a204 zc O2 P5 h204 n0 A204.old X204 (show Fld Z h204 a204 "java/lang/AbstractStringBuilder" "value" "[B" .null from D204 (Or.inl (wd hw 61 rfl)) (ty := (.array .byte)) (by decide)) (show Fld Z h204 a204 "java/lang/AbstractStringBuilder" "coder" "B" (.int (0 : Int32)) from D204 (Or.inl (wd hw 63 rfl)) (ty := .byte) (by decide)) (show Fld Z h204 a204 "java/lang/AbstractStringBuilder" "count" "I" (.int (0 : Int32)) from D204 (Or.inl (wd hw 85 rfl)) (ty := .int) (by decide)) z204) (wd hw 51 rfl) (wd hw 48 rfl) (by decide) (by decide)) (kc := 1) (ks := 16) (by decide) (by decide) (allS z204 all0) (fun _ => (sfS (Safe.exa A204.hZ.alike X204 (by decide) (by decide)) sf0)) fun v206 T206 h206 L206 A206 K206 q206 => ?_
  have Q207 : Keep h0 h206 [] := Q205.trans K206 (allS (Or.inr y204) all0)
  obtain ⟨rfl, v206, kb206, zv206, gv206, B206⟩ := q206
  show Wp pG e below _ T206 (mkF m 7 _ [(.ref a204)])
  refine f_aloadN A206 d8_7 (pc' := 8) rfl rfl rfl ?_
  have c209 := ((Fi.ext E204).keep K206 (ninS (Nat.ne_of_lt (Nat.lt_of_lt_of_le E.lt (Nat.le_of_eq g204.symm))) nin0))
  refine f_getF A206 d8_8 (pc' := 11) rfl (host := "") (Or.inl (wd hw 37 rfl)) Via.refl c209 fun T208 A208 => ?_
  have c210 := ((F.ext E204).keep K206 (ninS (Nat.ne_of_lt (Nat.lt_of_lt_of_le F.lt (Nat.le_of_eq g204.symm))) nin0) (ninS (Nat.ne_of_lt (Nat.lt_of_lt_of_le F.lt' (Nat.le_of_eq g204.symm))) nin0))
  have s212 := Safe.keep K206 (sfS (Safe.exa A204.hZ.alike X204 (by decide) (by decide)) sf0) (A204.ch rfl).1 (Safe.new gv206)
  refine f_callV A208 (a := a204) d8_11 (pc' := 14) rfl (wd hw 64 rfl) (wd hw 65 rfl) (nfS A208 (wd hw 67 rfl)) (wd hw 67 rfl) (wd hw 66 rfl) (by decide) B206.1 pd22 [(.ref x)] [] rfl rfl rfl 0 (Nat.le_of_eq rfl) (CN.pay (W := 0) A208 (m_sbA l Z a0 hw a204 v206 kb206 16 [] x t ids zc O2 P5 h206 n0 A208.old B206 c210 (fun c hc => (hid c hc).2) (by simp only [List.length_append, List.length_cons, List.length_nil]; omega) (by decide) z204 zv206 (Nat.ne_of_lt (Nat.lt_of_lt_of_le X204.lt gv206)) (Nat.ne_of_lt (Nat.lt_of_lt_of_le (Nat.lt_of_lt_of_le F.lt' E204.1) gv206))) (wd hw 68 rfl) (wd hw 48 rfl) (by decide) (by decide)) (kc := 0) (ks := 0) (by decide) (by decide) (allS z204 (allS zv206 all0)) (fun _ => (sfS (Safe.exa A208.hZ.alike B206.1 (by decide) (by decide)) (sfS s212 sf0))) fun v211 T211 h211 L211 A211 K211 q211 => ?_
  have Q213 : Keep h0 h211 [] := Q207.trans K211 (allS (Or.inr y204) (allS (Or.inr (Nat.le_trans Q205.1 gv206)) all0))
  obtain ⟨rfl, B211⟩ := q211
  have B211 : SBd Z h211 a204 v206 kb206 16 ids := B211
  show Wp pG e below _ T211 (mkF m 14 _ [(.ref a204)])
  refine f_ldcC A211 d8_14 (pc' := 16) rfl (by decide) (vs := [(.int (32 : Int32)), (.int (40 : Int32)), (.int (116 : Int32)), (.int (111 : Int32)), (.int (107 : Int32)), (.int (101 : Int32)), (.int (110 : Int32)), (.int (32 : Int32))]) (z := 8) ⟨by decide, by decide⟩ (by decide) (by decide) (wd hw 111 rfl) (strA hw) hEL (n := 32) (by decide) (by decide) (by decide) (by decide) fun a214 b214 kb214 vm214 T214 h214 A214 E214 C214 Li214 x214 fc214 fv214 av214 hs214 => ?_
  have G214 : Str Z h214 a214 b214 [(32 : Int32), (40 : Int32), (116 : Int32), (111 : Int32), (107 : Int32), (101 : Int32), (110 : Int32), (32 : Int32)] := strLit x214 fc214 fv214 av214 (Or.inl ⟨rfl, rfl, rfl, by decide⟩) (by decide) (by decide)
  have Q215 : Keep h0 h214 [] := Q213.ext E214
  have c216 := (B211.ext E214)
  have c218 := (CHr.safe C214 (Nat.lt_of_lt_of_le B206.2.2.2.2.1.lt K211.1) (Safe.keep K211 (sfS (Safe.exa A208.hZ.alike B206.1 (by decide) (by decide)) (sfS s212 sf0)) (A208.ch rfl).1 s212))
  have c219 := (B211.1.ext E214)
  refine f_callV A214 (a := a204) d8_16 (pc' := 19) rfl (wd hw 64 rfl) (wd hw 65 rfl) (nfS A214 (wd hw 67 rfl)) (wd hw 67 rfl) (wd hw 66 rfl) (by decide) c219 pd22 [(.ref a214)] [] rfl rfl rfl 0 (Nat.le_of_eq rfl) (CN.pay (W := 0) A214 (m_sbA l Z a0 hw a204 v206 kb206 16 ids a214 b214 [(32 : Int32), (40 : Int32), (116 : Int32), (111 : Int32), (107 : Int32), (101 : Int32), (110 : Int32), (32 : Int32)] zc O2 P5 h214 n0 A214.old c216 G214 (by decide) (by simp only [List.length_append, List.length_cons, List.length_nil]; omega) (by decide) z204 zv206 (Nat.ne_of_lt (Nat.lt_of_lt_of_le X204.lt gv206)) (Ne.symm (hs214 _ (CHr.safe C214 (Nat.lt_of_lt_of_le B206.2.2.2.2.1.lt K211.1) (Safe.keep K211 (sfS (Safe.exa A208.hZ.alike B206.1 (by decide) (by decide)) (sfS s212 sf0)) (A208.ch rfl).1 s212))).2)) (wd hw 68 rfl) (wd hw 48 rfl) (by decide) (by decide)) (kc := 0) (ks := 0) (by decide) (by decide) (allS z204 (allS zv206 all0)) (fun _ => (sfS (Safe.exa A214.hZ.alike c219 (by decide) (by decide)) (sfS c218 sf0))) fun v217 T217 h217 L217 A217 K217 q217 => ?_
  have Q220 : Keep h0 h217 [] := Q215.trans K217 (allS (Or.inr y204) (allS (Or.inr (Nat.le_trans Q205.1 gv206)) all0))
  obtain ⟨rfl, B217⟩ := q217
  have B217 : SBd Z h217 a204 v206 kb206 16 (ids ++ [(32 : Int32), (40 : Int32), (116 : Int32), (111 : Int32), (107 : Int32), (101 : Int32), (110 : Int32), (32 : Int32)]) := B217
  show Wp pG e below _ T217 (mkF m 19 _ [(.ref a204)])
  refine f_aloadN A217 d8_19 (pc' := 20) rfl rfl rfl ?_
  have c222 := (((((Ft.ext E204).keep K206 (ninS (Nat.ne_of_lt (Nat.lt_of_lt_of_le E.lt (Nat.le_of_eq g204.symm))) nin0)).keep K211 (ninS (Nat.ne_of_lt (Nat.lt_of_lt_of_le E.lt (Nat.le_of_eq g204.symm))) (ninS (Nat.ne_of_lt (Nat.lt_of_lt_of_le (Nat.lt_of_lt_of_le E.lt E204.1) gv206)) nin0))).ext E214).keep K217 (ninS (Nat.ne_of_lt (Nat.lt_of_lt_of_le E.lt (Nat.le_of_eq g204.symm))) (ninS (Nat.ne_of_lt (Nat.lt_of_lt_of_le (Nat.lt_of_lt_of_le E.lt E204.1) gv206)) nin0)))
  refine f_getF A217 d8_20 (pc' := 23) rfl (host := "") (Or.inl (wd hw 39 rfl)) Via.refl c222 fun T221 A221 => ?_
  have hc2 : (ids ++ [(32 : Int32), (40 : Int32), (116 : Int32), (111 : Int32), (107 : Int32), (101 : Int32), (110 : Int32), (32 : Int32)]).length = ids.length + 8 := by simp only [List.length_append, List.length_cons, List.length_nil]
  by_cases hg : 16 < (ids ++ [(32 : Int32), (40 : Int32), (116 : Int32), (111 : Int32), (107 : Int32), (101 : Int32), (110 : Int32), (32 : Int32)]).length + (ldL tk n).length
  · refine f_callV A221 (a := a204) d8_23 (pc' := 26) rfl (wd hw 114 rfl) (wd hw 115 rfl) (nfS A221 (wd hw 117 rfl)) (wd hw 117 rfl) (wd hw 116 rfl) (by decide) B217.1 pd23 [(.long tk)] [] rfl rfl rfl 0 (Nat.le_of_eq rfl) (CN.pay (W := 0) A221 (m_sbJ1 l Z a0 hw a204 v206 kb206 (ids ++ [(32 : Int32), (40 : Int32), (116 : Int32), (111 : Int32), (107 : Int32), (101 : Int32), (110 : Int32), (32 : Int32)]) tk n zc O2 P5 h217 n0 A221.old B217 hD hn hx (by omega) hg (by omega) z204) (wd hw 118 rfl) (wd hw 48 rfl) (by decide) (by decide)) (kc := 1) (ks := 34) (by decide) (by decide) (allS z204 all0) (fun _ => (sfS (Safe.exa A221.hZ.alike B217.1 (by decide) (by decide)) sf0)) fun v223 T223 h223 L223 A223 K223 q223 => ?_
    have Q224 : Keep h0 h223 [] := Q220.trans K223 (allS (Or.inr y204) all0)
    obtain ⟨rfl, u223, ku223, zu223, gu223, B223⟩ := q223
    show Wp pG e below _ T223 (mkF m 26 _ [(.ref a204)])
    refine f_ldcC A223 d8_26 (pc' := 28) rfl (by decide) (vs := [(.int (41 : Int32))]) (z := 1) ⟨by decide, by decide⟩ (by decide) (by decide) (wd hw 139 rfl) (strA hw) hEL (n := 4) (by decide) (by decide) (by decide) (by decide) fun a225 b225 kb225 vm225 T225 h225 A225 E225 C225 Li225 x225 fc225 fv225 av225 hs225 => ?_
    have G225 : Str Z h225 a225 b225 [(41 : Int32)] := strLit x225 fc225 fv225 av225 (Or.inl ⟨rfl, rfl, rfl, by decide⟩) (by decide) (by decide)
    have Q226 : Keep h0 h225 [] := Q224.ext E225
    have c227 := (B223.ext E225)
    have s228 := Safe.keep K223 (sfS (Safe.exa A221.hZ.alike B217.1 (by decide) (by decide)) sf0) (A221.ch rfl).1 (Safe.new gu223)
    have c230 := (CHr.safe C225 B223.2.2.2.2.1.lt s228)
    have c231 := (B223.1.ext E225)
    refine f_callV A225 (a := a204) d8_28 (pc' := 31) rfl (wd hw 64 rfl) (wd hw 65 rfl) (nfS A225 (wd hw 67 rfl)) (wd hw 67 rfl) (wd hw 66 rfl) (by decide) c231 pd22 [(.ref a225)] [] rfl rfl rfl 0 (Nat.le_of_eq rfl) (CN.pay (W := 0) A225 (m_sbA l Z a0 hw a204 u223 ku223 34 ((ids ++ [(32 : Int32), (40 : Int32), (116 : Int32), (111 : Int32), (107 : Int32), (101 : Int32), (110 : Int32), (32 : Int32)]) ++ ldL tk n) a225 b225 [(41 : Int32)] zc O2 P5 h225 n0 A225.old c227 G225 (by decide) (by simp only [List.length_append, List.length_cons, List.length_nil]; omega) (by decide) z204 zu223 (Nat.ne_of_lt (Nat.lt_of_lt_of_le (Nat.lt_of_lt_of_le (Nat.lt_of_lt_of_le (Nat.lt_of_lt_of_le (Nat.lt_of_lt_of_le X204.lt K206.1) K211.1) E214.1) K217.1) gu223)) (Ne.symm (hs225 _ (CHr.safe C225 B223.2.2.2.2.1.lt s228)).2)) (wd hw 68 rfl) (wd hw 48 rfl) (by decide) (by decide)) (kc := 0) (ks := 0) (by decide) (by decide) (allS z204 (allS zu223 all0)) (fun _ => (sfS (Safe.exa A225.hZ.alike c231 (by decide) (by decide)) (sfS c230 sf0))) fun v229 T229 h229 L229 A229 K229 q229 => ?_
    have Q232 : Keep h0 h229 [] := Q226.trans K229 (allS (Or.inr y204) (allS (Or.inr (Nat.le_trans Q220.1 gu223)) all0))
    obtain ⟨rfl, B229⟩ := q229
    have B229 : SBd Z h229 a204 u223 ku223 34 (((ids ++ [(32 : Int32), (40 : Int32), (116 : Int32), (111 : Int32), (107 : Int32), (101 : Int32), (110 : Int32), (32 : Int32)]) ++ ldL tk n) ++ [(41 : Int32)]) := B229
    show Wp pG e below _ T229 (mkF m 31 _ [(.ref a204)])
    refine f_callV A229 (a := a204) d8_31 (pc' := 34) rfl (wd hw 140 rfl) (wd hw 141 rfl) (nfS A229 (wd hw 143 rfl)) (wd hw 143 rfl) (wd hw 142 rfl) (by decide) B229.1 pd24 [] [] rfl rfl rfl 0 (Nat.le_of_eq rfl) (CN.pay (W := 0) A229 (m_sbS l Z a0 hw a204 u223 ku223 34 (((ids ++ [(32 : Int32), (40 : Int32), (116 : Int32), (111 : Int32), (107 : Int32), (101 : Int32), (110 : Int32), (32 : Int32)]) ++ ldL tk n) ++ [(41 : Int32)]) zc O2 P5 h229 n0 A229.old B229 (by simp only [List.length_append, List.length_cons, List.length_nil]; omega) (by decide) (by simp only [List.length_append, List.length_cons, List.length_nil]; omega) (la (la (la hid (by decide)) hlat) (by decide))) (wd hw 144 rfl) (wd hw 48 rfl) (by decide) (by decide)) (kc := 2) (ks := 70) (by decide) (by decide) all0 (fun _ => sf0) fun v233 T233 h233 L233 A233 K233 q233 => ?_
    have Q234 : Keep h0 h233 [] := Q232.trans K233 all0
    obtain ⟨x233, t233, rfl, zx233, xg233, tg233, G233⟩ := q233
    show Wp pG e below _ T233 (mkF m 34 _ [(.ref x233)])
    exact f_retRW A233 hEL hlk hret d8_34 rfl rfl (by decide) (by decide) Q234 ⟨x233, t233, rfl, (Nat.le_trans Q232.1 xg233), G233⟩
  · have hg : (ids ++ [(32 : Int32), (40 : Int32), (116 : Int32), (111 : Int32), (107 : Int32), (101 : Int32), (110 : Int32), (32 : Int32)]).length + (ldL tk n).length ≤ 16 := Nat.le_of_not_lt hg
    by_cases hg2 : 16 < (ids ++ [(32 : Int32), (40 : Int32), (116 : Int32), (111 : Int32), (107 : Int32), (101 : Int32), (110 : Int32), (32 : Int32)]).length + (ldL tk n).length + 1
    · have c236 := (Safe.keep K217 (sfS (Safe.exa A214.hZ.alike c219 (by decide) (by decide)) (sfS c218 sf0)) (A214.ch rfl).1 c218)
      refine f_callV A221 (a := a204) d8_23 (pc' := 26) rfl (wd hw 114 rfl) (wd hw 115 rfl) (nfS A221 (wd hw 117 rfl)) (wd hw 117 rfl) (wd hw 116 rfl) (by decide) B217.1 pd23 [(.long tk)] [] rfl rfl rfl 0 (Nat.le_of_eq rfl) (CN.pay (W := 0) A221 (m_sbJ0 l Z a0 hw a204 v206 kb206 16 (ids ++ [(32 : Int32), (40 : Int32), (116 : Int32), (111 : Int32), (107 : Int32), (101 : Int32), (110 : Int32), (32 : Int32)]) tk n zc O2 P5 h217 n0 A221.old B217 hD hn hx hg (by decide) z204 zv206 (Nat.ne_of_lt (Nat.lt_of_lt_of_le X204.lt gv206))) (wd hw 118 rfl) (wd hw 48 rfl) (by decide) (by decide)) (kc := 0) (ks := 0) (by decide) (by decide) (allS z204 (allS zv206 all0)) (fun _ => (sfS (Safe.exa A221.hZ.alike B217.1 (by decide) (by decide)) (sfS c236 sf0))) fun v235 T235 h235 L235 A235 K235 q235 => ?_
      have Q237 : Keep h0 h235 [] := Q220.trans K235 (allS (Or.inr y204) (allS (Or.inr (Nat.le_trans Q205.1 gv206)) all0))
      obtain ⟨rfl, B235⟩ := q235
      show Wp pG e below _ T235 (mkF m 26 _ [(.ref a204)])
      refine f_ldcC A235 d8_26 (pc' := 28) rfl (by decide) (vs := [(.int (41 : Int32))]) (z := 1) ⟨by decide, by decide⟩ (by decide) (by decide) (wd hw 139 rfl) (strA hw) hEL (n := 4) (by decide) (by decide) (by decide) (by decide) fun a238 b238 kb238 vm238 T238 h238 A238 E238 C238 Li238 x238 fc238 fv238 av238 hs238 => ?_
      have G238 : Str Z h238 a238 b238 [(41 : Int32)] := strLit x238 fc238 fv238 av238 (Or.inl ⟨rfl, rfl, rfl, by decide⟩) (by decide) (by decide)
      have Q239 : Keep h0 h238 [] := Q237.ext E238
      have c240 := (B235.ext E238)
      have c242 := (B235.1.ext E238)
      refine f_callV A238 (a := a204) d8_28 (pc' := 31) rfl (wd hw 64 rfl) (wd hw 65 rfl) (nfS A238 (wd hw 67 rfl)) (wd hw 67 rfl) (wd hw 66 rfl) (by decide) c242 pd22 [(.ref a238)] [] rfl rfl rfl 0 (Nat.le_of_eq rfl) (CN.pay (W := 0) A238 (m_sbAG l Z a0 hw a204 v206 kb206 ((ids ++ [(32 : Int32), (40 : Int32), (116 : Int32), (111 : Int32), (107 : Int32), (101 : Int32), (110 : Int32), (32 : Int32)]) ++ ldL tk n) a238 b238 [(41 : Int32)] zc O2 P5 h238 n0 A238.old c240 G238 (by decide) (by simp only [List.length_append, List.length_cons, List.length_nil]; omega) (by simp only [List.length_append, List.length_cons, List.length_nil]; omega) (by simp only [List.length_append, List.length_cons, List.length_nil]; omega) z204 (Ne.symm (hs238 _ (Safe.exa A238.hZ.alike (B235.1.ext E238) (by decide) (by decide))).1) (Ne.symm (hs238 _ (Safe.exa A238.hZ.alike (B235.1.ext E238) (by decide) (by decide))).2)) (wd hw 68 rfl) (wd hw 48 rfl) (by decide) (by decide)) (kc := 1) (ks := 34) (by decide) (by decide) (allS z204 all0) (fun _ => (sfS (Safe.exa A238.hZ.alike c242 (by decide) (by decide)) sf0)) fun v241 T241 h241 L241 A241 K241 q241 => ?_
      have Q243 : Keep h0 h241 [] := Q239.trans K241 (allS (Or.inr y204) all0)
      obtain ⟨rfl, u241, ku241, zu241, gu241, B241⟩ := q241
      show Wp pG e below _ T241 (mkF m 31 _ [(.ref a204)])
      refine f_callV A241 (a := a204) d8_31 (pc' := 34) rfl (wd hw 140 rfl) (wd hw 141 rfl) (nfS A241 (wd hw 143 rfl)) (wd hw 143 rfl) (wd hw 142 rfl) (by decide) B241.1 pd24 [] [] rfl rfl rfl 0 (Nat.le_of_eq rfl) (CN.pay (W := 0) A241 (m_sbS l Z a0 hw a204 u241 ku241 34 (((ids ++ [(32 : Int32), (40 : Int32), (116 : Int32), (111 : Int32), (107 : Int32), (101 : Int32), (110 : Int32), (32 : Int32)]) ++ ldL tk n) ++ [(41 : Int32)]) zc O2 P5 h241 n0 A241.old B241 (by simp only [List.length_append, List.length_cons, List.length_nil]; omega) (by decide) (by simp only [List.length_append, List.length_cons, List.length_nil]; omega) (la (la (la hid (by decide)) hlat) (by decide))) (wd hw 144 rfl) (wd hw 48 rfl) (by decide) (by decide)) (kc := 2) (ks := 70) (by decide) (by decide) all0 (fun _ => sf0) fun v244 T244 h244 L244 A244 K244 q244 => ?_
      have Q245 : Keep h0 h244 [] := Q243.trans K244 all0
      obtain ⟨x244, t244, rfl, zx244, xg244, tg244, G244⟩ := q244
      show Wp pG e below _ T244 (mkF m 34 _ [(.ref x244)])
      exact f_retRW A244 hEL hlk hret d8_34 rfl rfl (by decide) (by decide) Q245 ⟨x244, t244, rfl, (Nat.le_trans Q243.1 xg244), G244⟩
    · have c247 := (Safe.keep K217 (sfS (Safe.exa A214.hZ.alike c219 (by decide) (by decide)) (sfS c218 sf0)) (A214.ch rfl).1 c218)
      refine f_callV A221 (a := a204) d8_23 (pc' := 26) rfl (wd hw 114 rfl) (wd hw 115 rfl) (nfS A221 (wd hw 117 rfl)) (wd hw 117 rfl) (wd hw 116 rfl) (by decide) B217.1 pd23 [(.long tk)] [] rfl rfl rfl 0 (Nat.le_of_eq rfl) (CN.pay (W := 0) A221 (m_sbJ0 l Z a0 hw a204 v206 kb206 16 (ids ++ [(32 : Int32), (40 : Int32), (116 : Int32), (111 : Int32), (107 : Int32), (101 : Int32), (110 : Int32), (32 : Int32)]) tk n zc O2 P5 h217 n0 A221.old B217 hD hn hx hg (by decide) z204 zv206 (Nat.ne_of_lt (Nat.lt_of_lt_of_le X204.lt gv206))) (wd hw 118 rfl) (wd hw 48 rfl) (by decide) (by decide)) (kc := 0) (ks := 0) (by decide) (by decide) (allS z204 (allS zv206 all0)) (fun _ => (sfS (Safe.exa A221.hZ.alike B217.1 (by decide) (by decide)) (sfS c247 sf0))) fun v246 T246 h246 L246 A246 K246 q246 => ?_
      have Q248 : Keep h0 h246 [] := Q220.trans K246 (allS (Or.inr y204) (allS (Or.inr (Nat.le_trans Q205.1 gv206)) all0))
      obtain ⟨rfl, B246⟩ := q246
      show Wp pG e below _ T246 (mkF m 26 _ [(.ref a204)])
      refine f_ldcC A246 d8_26 (pc' := 28) rfl (by decide) (vs := [(.int (41 : Int32))]) (z := 1) ⟨by decide, by decide⟩ (by decide) (by decide) (wd hw 139 rfl) (strA hw) hEL (n := 4) (by decide) (by decide) (by decide) (by decide) fun a249 b249 kb249 vm249 T249 h249 A249 E249 C249 Li249 x249 fc249 fv249 av249 hs249 => ?_
      have G249 : Str Z h249 a249 b249 [(41 : Int32)] := strLit x249 fc249 fv249 av249 (Or.inl ⟨rfl, rfl, rfl, by decide⟩) (by decide) (by decide)
      have Q250 : Keep h0 h249 [] := Q248.ext E249
      have c251 := (B246.ext E249)
      have c253 := (CHr.safe C249 (Nat.lt_of_lt_of_le (Nat.lt_of_lt_of_le (Nat.lt_of_lt_of_le (Nat.lt_of_lt_of_le B206.2.2.2.2.1.lt K211.1) E214.1) K217.1) K246.1) (Safe.keep K246 (sfS (Safe.exa A221.hZ.alike B217.1 (by decide) (by decide)) (sfS c247 sf0)) (A221.ch rfl).1 c247))
      have c254 := (B246.1.ext E249)
      refine f_callV A249 (a := a204) d8_28 (pc' := 31) rfl (wd hw 64 rfl) (wd hw 65 rfl) (nfS A249 (wd hw 67 rfl)) (wd hw 67 rfl) (wd hw 66 rfl) (by decide) c254 pd22 [(.ref a249)] [] rfl rfl rfl 0 (Nat.le_of_eq rfl) (CN.pay (W := 0) A249 (m_sbA l Z a0 hw a204 v206 kb206 16 ((ids ++ [(32 : Int32), (40 : Int32), (116 : Int32), (111 : Int32), (107 : Int32), (101 : Int32), (110 : Int32), (32 : Int32)]) ++ ldL tk n) a249 b249 [(41 : Int32)] zc O2 P5 h249 n0 A249.old c251 G249 (by decide) (by simp only [List.length_append, List.length_cons, List.length_nil]; omega) (by decide) z204 zv206 (Nat.ne_of_lt (Nat.lt_of_lt_of_le X204.lt gv206)) (Ne.symm (hs249 _ (CHr.safe C249 (Nat.lt_of_lt_of_le (Nat.lt_of_lt_of_le (Nat.lt_of_lt_of_le (Nat.lt_of_lt_of_le B206.2.2.2.2.1.lt K211.1) E214.1) K217.1) K246.1) (Safe.keep K246 (sfS (Safe.exa A221.hZ.alike B217.1 (by decide) (by decide)) (sfS c247 sf0)) (A221.ch rfl).1 c247))).2)) (wd hw 68 rfl) (wd hw 48 rfl) (by decide) (by decide)) (kc := 0) (ks := 0) (by decide) (by decide) (allS z204 (allS zv206 all0)) (fun _ => (sfS (Safe.exa A249.hZ.alike c254 (by decide) (by decide)) (sfS c253 sf0))) fun v252 T252 h252 L252 A252 K252 q252 => ?_
      have Q255 : Keep h0 h252 [] := Q250.trans K252 (allS (Or.inr y204) (allS (Or.inr (Nat.le_trans Q205.1 gv206)) all0))
      obtain ⟨rfl, B252⟩ := q252
      have B252 : SBd Z h252 a204 v206 kb206 16 (((ids ++ [(32 : Int32), (40 : Int32), (116 : Int32), (111 : Int32), (107 : Int32), (101 : Int32), (110 : Int32), (32 : Int32)]) ++ ldL tk n) ++ [(41 : Int32)]) := B252
      show Wp pG e below _ T252 (mkF m 31 _ [(.ref a204)])
      refine f_callV A252 (a := a204) d8_31 (pc' := 34) rfl (wd hw 140 rfl) (wd hw 141 rfl) (nfS A252 (wd hw 143 rfl)) (wd hw 143 rfl) (wd hw 142 rfl) (by decide) B252.1 pd24 [] [] rfl rfl rfl 0 (Nat.le_of_eq rfl) (CN.pay (W := 0) A252 (m_sbS l Z a0 hw a204 v206 kb206 16 (((ids ++ [(32 : Int32), (40 : Int32), (116 : Int32), (111 : Int32), (107 : Int32), (101 : Int32), (110 : Int32), (32 : Int32)]) ++ ldL tk n) ++ [(41 : Int32)]) zc O2 P5 h252 n0 A252.old B252 (by simp only [List.length_append, List.length_cons, List.length_nil]; omega) (by decide) (by simp only [List.length_append, List.length_cons, List.length_nil]; omega) (la (la (la hid (by decide)) hlat) (by decide))) (wd hw 144 rfl) (wd hw 48 rfl) (by decide) (by decide)) (kc := 2) (ks := 70) (by decide) (by decide) all0 (fun _ => sf0) fun v256 T256 h256 L256 A256 K256 q256 => ?_
      have Q257 : Keep h0 h256 [] := Q255.trans K256 all0
      obtain ⟨x256, t256, rfl, zx256, xg256, tg256, G256⟩ := q256
      show Wp pG e below _ T256 (mkF m 34 _ [(.ref x256)])
      exact f_retRW A256 hEL hlk hret d8_34 rfl rfl (by decide) (by decide) Q257 ⟨x256, t256, rfl, (Nat.le_trans Q255.1 xg256), G256⟩
theorem negL_ex (x : Int64) : ∃ n : Nat, n ≤ 2 ^ 63 ∧ (if x < 0 then x else -x) = Jvm.Free.SBG.negL n := by
  have r := rng64 x
  have key : ∀ y : Int64, y.toInt ≤ 0 → ∃ n : Nat, n ≤ 2 ^ 63 ∧ y = Jvm.Free.SBG.negL n := fun y hy => by
    have r := rng64 y
    refine ⟨(-y.toInt).toNat, by omega, Int64.toInt_inj.mp ?_⟩
    rw [Jvm.Free.SBG.negL_toInt (by omega)]; omega
  have e0 : (0 : Int64).toInt = 0 := rfl
  split
  · next h => rw [Int64.lt_iff_toInt_lt] at h; exact key _ (by omega)
  · next h => rw [Int64.lt_iff_toInt_lt] at h; exact key _ (by have a := c_lneg x; have b := rng64 (-x); omega)
theorem own_wN (f n : Nat) : Jvm.Free.SBG.wN (f + 1) n = if 100 ≤ n then 2 + Jvm.Free.SBG.wN f (n / 100) else if 9 < n then 2 else 1 := rfl
theorem lgt {q : Int64} {n : Nat} (hn : n ≤ 2 ^ 63) (hq : q = Jvm.Free.SBG.negL n) (p : Int64) (P : Nat) (hp : p.toInt = -(P : Int)) : (0 : Int32) < lcmpW q p ↔ n < P := by
  rw [lw_gt, Int64.lt_iff_toInt_lt, hq, Jvm.Free.SBG.negL_toInt hn, hp]; omega
theorem digc {q p : Int64} {n P : Nat} (hn : n ≤ 2 ^ 63) (hq : q = Jvm.Free.SBG.negL n) (hp : p.toInt = P) (hP : 0 < P) (hp1 : p ≠ -1) : (((48 : Int64) + (-((q / p) % (10 : Int64)))).toInt32).toUInt32.toUInt16.toUInt32.toInt32 = Int32.ofNat (48 + n / P % 10) := by
  have hqi : q.toInt = -(n : Int) := by rw [hq, Jvm.Free.SBG.negL_toInt hn]
  have h1 : (q / p).toInt = -((n / P : Nat) : Int) := by
    rw [Int64.toInt_div_of_ne_right _ _ hp1, hqi, hp, Int.neg_tdiv, Int.tdiv_eq_ediv_of_nonneg (by omega)]; rfl
  have hm : n / P ≤ n := Nat.div_le_self n P
  generalize n / P = k at *
  have h2 : ((q / p) % (10 : Int64)).toInt = -((k % 10 : Nat) : Int) := by
    rw [Int64.toInt_mod, h1, show (10 : Int64).toInt = 10 from rfl, Int.neg_tmod, Int.tmod_eq_emod_of_nonneg (by omega)]; omega
  generalize (q / p) % (10 : Int64) = r at *
  have a1 := c_lneg r; have b1 := rng64 (-r); have a2 := c_ladd (48 : Int64) (-r); have b2 := rng64 ((48 : Int64) + -r); have e48 : (48 : Int64).toInt = 48 := rfl
  have a3 := c_l2i ((48 : Int64) + -r); have b3 := rng32 ((48 : Int64) + -r).toInt32; have a4 := c_i2c ((48 : Int64) + -r).toInt32
  apply Int32.toInt_inj.mp; rw [ofn (by omega)]; omega
theorem getD_last {A D : List Int32} {x : Int32} {i : Nat} (h : i = A.length + D.length) : (A ++ (D ++ [x])).getD i 0 = x := by
  subst h; rw [getD_app2 (Nat.le_add_right _ _), Nat.add_sub_cancel_left, getD_app2 (Nat.le_refl _), Nat.sub_self]; rfl
theorem digH {q p : Int64} {n dn k P pl : Nat} {A : List Int32} {K N last : Int32} (hn : n ≤ 2 ^ 63) (hq : q = Jvm.Free.SBG.negL n) (hdn : dn ≤ 20) (hpl : A.length = pl) (hpl2 : pl ≤ 20) (hp : p.toInt = P) (hP : 10 ^ k = P) (hp1 : p ≠ -1) (hK : K = Int32.ofNat k) (hk : k < 64) (hN : N = Int32.ofNat dn) (hl : last = Int32.ofNat (pl + dn + 1 - 2)) :
    K < N → ∃ i : Nat, i < (A ++ (dlist n dn ++ [(41 : Int32)])).length ∧ last - K = Int32.ofNat i ∧ (((48 : Int64) + (-((q / p) % (10 : Int64)))).toInt32).toUInt32.toUInt16.toUInt32.toInt32 = (A ++ (dlist n dn ++ [(41 : Int32)])).getD i 0 := fun h => by
  subst hK hN hl hpl
  rw [ofn_lt (by omega) (by omega)] at h
  refine ⟨A.length + dn - 1 - k, by rw [List.length_append, List.length_append, dlist_len]; simp; omega, ?_, ?_⟩
  · rw [ofn_sub (by omega) (by omega)]; exact congrArg Int32.ofNat (by omega)
  · rw [digc hn hq hp (by rw [← hP]; exact Nat.pow_pos (by omega)) hp1, getD_app2 (by omega), getD_app1 (by rw [dlist_len]; omega), dlist_get (by omega), ← hP]
    rw [show dn - 1 - (A.length + dn - 1 - k - A.length) = k by omega]
theorem lt4 {k : Int32} (q : 0 ≤ k.toInt ∧ k.toInt ≤ 3) : k = 0 ∨ k = 1 ∨ k = 2 ∨ k = 3 := by
  have : k.toInt = 0 ∨ k.toInt = 1 ∨ k.toInt = 2 ∨ k.toInt = 3 := by omega
  rcases this with z | z | z | z
  · exact Or.inl (Int32.toInt_inj.mp z)
  · exact Or.inr (Or.inl (Int32.toInt_inj.mp z))
  · exact Or.inr (Or.inr (Or.inl (Int32.toInt_inj.mp z)))
  · exact Or.inr (Or.inr (Or.inr (Int32.toInt_inj.mp z)))
theorem dgk1 {n : Nat} (h2 : n < 10) : Jvm.Free.SBG.digitsL n = 1 := by
  show Jvm.Free.SBG.wN 10 n = 1
  rw [own_wN 9, if_neg (by omega), if_neg (by omega)]
theorem dgk2 {n : Nat} (h1 : 10 ≤ n) (h2 : n < 100) : Jvm.Free.SBG.digitsL n = 2 := by
  show Jvm.Free.SBG.wN 10 n = 2
  rw [own_wN 9, if_neg (by omega), if_pos (by omega)]
theorem dgk3 {n : Nat} (h1 : 100 ≤ n) (h2 : n < 1000) : Jvm.Free.SBG.digitsL n = 3 := by
  show Jvm.Free.SBG.wN 10 n = 3
  rw [own_wN 9, if_pos (by omega), own_wN 8, if_neg (by omega), if_neg (by omega)]
theorem dgk4 {n : Nat} (h1 : 1000 ≤ n) (h2 : n < 10000) : Jvm.Free.SBG.digitsL n = 4 := by
  show Jvm.Free.SBG.wN 10 n = 4
  rw [own_wN 9, if_pos (by omega), own_wN 8, if_neg (by omega), if_pos (by omega)]
theorem dgk5 {n : Nat} (h1 : 10000 ≤ n) (h2 : n < 100000) : Jvm.Free.SBG.digitsL n = 5 := by
  show Jvm.Free.SBG.wN 10 n = 5
  rw [own_wN 9, if_pos (by omega), own_wN 8, if_pos (by omega), own_wN 7, if_neg (by omega), if_neg (by omega)]
theorem dgk6 {n : Nat} (h1 : 100000 ≤ n) (h2 : n < 1000000) : Jvm.Free.SBG.digitsL n = 6 := by
  show Jvm.Free.SBG.wN 10 n = 6
  rw [own_wN 9, if_pos (by omega), own_wN 8, if_pos (by omega), own_wN 7, if_neg (by omega), if_pos (by omega)]
theorem dgk7 {n : Nat} (h1 : 1000000 ≤ n) (h2 : n < 10000000) : Jvm.Free.SBG.digitsL n = 7 := by
  show Jvm.Free.SBG.wN 10 n = 7
  rw [own_wN 9, if_pos (by omega), own_wN 8, if_pos (by omega), own_wN 7, if_pos (by omega), own_wN 6, if_neg (by omega), if_neg (by omega)]
theorem dgk8 {n : Nat} (h1 : 10000000 ≤ n) (h2 : n < 100000000) : Jvm.Free.SBG.digitsL n = 8 := by
  show Jvm.Free.SBG.wN 10 n = 8
  rw [own_wN 9, if_pos (by omega), own_wN 8, if_pos (by omega), own_wN 7, if_pos (by omega), own_wN 6, if_neg (by omega), if_pos (by omega)]
theorem dgk9 {n : Nat} (h1 : 100000000 ≤ n) (h2 : n < 1000000000) : Jvm.Free.SBG.digitsL n = 9 := by
  show Jvm.Free.SBG.wN 10 n = 9
  rw [own_wN 9, if_pos (by omega), own_wN 8, if_pos (by omega), own_wN 7, if_pos (by omega), own_wN 6, if_pos (by omega), own_wN 5, if_neg (by omega), if_neg (by omega)]
theorem dgk10 {n : Nat} (h1 : 1000000000 ≤ n) (h2 : n < 10000000000) : Jvm.Free.SBG.digitsL n = 10 := by
  show Jvm.Free.SBG.wN 10 n = 10
  rw [own_wN 9, if_pos (by omega), own_wN 8, if_pos (by omega), own_wN 7, if_pos (by omega), own_wN 6, if_pos (by omega), own_wN 5, if_neg (by omega), if_pos (by omega)]
theorem dgk11 {n : Nat} (h1 : 10000000000 ≤ n) (h2 : n < 100000000000) : Jvm.Free.SBG.digitsL n = 11 := by
  show Jvm.Free.SBG.wN 10 n = 11
  rw [own_wN 9, if_pos (by omega), own_wN 8, if_pos (by omega), own_wN 7, if_pos (by omega), own_wN 6, if_pos (by omega), own_wN 5, if_pos (by omega), own_wN 4, if_neg (by omega), if_neg (by omega)]
theorem dgk12 {n : Nat} (h1 : 100000000000 ≤ n) (h2 : n < 1000000000000) : Jvm.Free.SBG.digitsL n = 12 := by
  show Jvm.Free.SBG.wN 10 n = 12
  rw [own_wN 9, if_pos (by omega), own_wN 8, if_pos (by omega), own_wN 7, if_pos (by omega), own_wN 6, if_pos (by omega), own_wN 5, if_pos (by omega), own_wN 4, if_neg (by omega), if_pos (by omega)]
theorem dgk13 {n : Nat} (h1 : 1000000000000 ≤ n) (h2 : n < 10000000000000) : Jvm.Free.SBG.digitsL n = 13 := by
  show Jvm.Free.SBG.wN 10 n = 13
  rw [own_wN 9, if_pos (by omega), own_wN 8, if_pos (by omega), own_wN 7, if_pos (by omega), own_wN 6, if_pos (by omega), own_wN 5, if_pos (by omega), own_wN 4, if_pos (by omega), own_wN 3, if_neg (by omega), if_neg (by omega)]
theorem dgk14 {n : Nat} (h1 : 10000000000000 ≤ n) (h2 : n < 100000000000000) : Jvm.Free.SBG.digitsL n = 14 := by
  show Jvm.Free.SBG.wN 10 n = 14
  rw [own_wN 9, if_pos (by omega), own_wN 8, if_pos (by omega), own_wN 7, if_pos (by omega), own_wN 6, if_pos (by omega), own_wN 5, if_pos (by omega), own_wN 4, if_pos (by omega), own_wN 3, if_neg (by omega), if_pos (by omega)]
theorem dgk15 {n : Nat} (h1 : 100000000000000 ≤ n) (h2 : n < 1000000000000000) : Jvm.Free.SBG.digitsL n = 15 := by
  show Jvm.Free.SBG.wN 10 n = 15
  rw [own_wN 9, if_pos (by omega), own_wN 8, if_pos (by omega), own_wN 7, if_pos (by omega), own_wN 6, if_pos (by omega), own_wN 5, if_pos (by omega), own_wN 4, if_pos (by omega), own_wN 3, if_pos (by omega), own_wN 2, if_neg (by omega), if_neg (by omega)]
theorem dgk16 {n : Nat} (h1 : 1000000000000000 ≤ n) (h2 : n < 10000000000000000) : Jvm.Free.SBG.digitsL n = 16 := by
  show Jvm.Free.SBG.wN 10 n = 16
  rw [own_wN 9, if_pos (by omega), own_wN 8, if_pos (by omega), own_wN 7, if_pos (by omega), own_wN 6, if_pos (by omega), own_wN 5, if_pos (by omega), own_wN 4, if_pos (by omega), own_wN 3, if_pos (by omega), own_wN 2, if_neg (by omega), if_pos (by omega)]
theorem dgk17 {n : Nat} (h1 : 10000000000000000 ≤ n) (h2 : n < 100000000000000000) : Jvm.Free.SBG.digitsL n = 17 := by
  show Jvm.Free.SBG.wN 10 n = 17
  rw [own_wN 9, if_pos (by omega), own_wN 8, if_pos (by omega), own_wN 7, if_pos (by omega), own_wN 6, if_pos (by omega), own_wN 5, if_pos (by omega), own_wN 4, if_pos (by omega), own_wN 3, if_pos (by omega), own_wN 2, if_pos (by omega), own_wN 1, if_neg (by omega), if_neg (by omega)]
theorem dgk18 {n : Nat} (h1 : 100000000000000000 ≤ n) (h2 : n < 1000000000000000000) : Jvm.Free.SBG.digitsL n = 18 := by
  show Jvm.Free.SBG.wN 10 n = 18
  rw [own_wN 9, if_pos (by omega), own_wN 8, if_pos (by omega), own_wN 7, if_pos (by omega), own_wN 6, if_pos (by omega), own_wN 5, if_pos (by omega), own_wN 4, if_pos (by omega), own_wN 3, if_pos (by omega), own_wN 2, if_pos (by omega), own_wN 1, if_neg (by omega), if_pos (by omega)]
theorem dgk19 {n : Nat} (h1 : 1000000000000000000 ≤ n) (h2 : n ≤ 2 ^ 63) : Jvm.Free.SBG.digitsL n = 19 := by
  show Jvm.Free.SBG.wN 10 n = 19
  rw [own_wN 9, if_pos (by omega), own_wN 8, if_pos (by omega), own_wN 7, if_pos (by omega), own_wN 6, if_pos (by omega), own_wN 5, if_pos (by omega), own_wN 4, if_pos (by omega), own_wN 3, if_pos (by omega), own_wN 2, if_pos (by omega), own_wN 1, if_pos (by omega), own_wN 0, if_neg (by omega), if_neg (by omega)]
theorem pn6 : plainName "com/example/await_in_turn/awaitinturn/QueueEntryToStringPinLaw" = true := by first | (simp [plainName, overriddenIn]; done) | decide +kernel
theorem d34_0 : decode method_4_code 0 = .ok (.lload_n 0, 1) := by decide +kernel
theorem d34_1 : decode method_4_code 1 = .ok (.ldc2_w 77, 3) := by decide +kernel
theorem d34_4 : decode method_4_code 4 = .ok (.lcmp, 1) := by decide +kernel
theorem d34_5 : decode method_4_code 5 = .ok (.ifCond .le 5, 3) := by decide +kernel
theorem d34_8 : decode method_4_code 8 = .ok (.iconst 1, 1) := by decide +kernel
theorem d34_9 : decode method_4_code 9 = .ok (.ireturn, 1) := by decide +kernel
theorem d34_10 : decode method_4_code 10 = .ok (.lload_n 0, 1) := by decide +kernel
theorem d34_11 : decode method_4_code 11 = .ok (.ldc2_w 79, 3) := by decide +kernel
theorem d34_14 : decode method_4_code 14 = .ok (.lcmp, 1) := by decide +kernel
theorem d34_15 : decode method_4_code 15 = .ok (.ifCond .le 5, 3) := by decide +kernel
theorem d34_18 : decode method_4_code 18 = .ok (.iconst 2, 1) := by decide +kernel
theorem d34_19 : decode method_4_code 19 = .ok (.ireturn, 1) := by decide +kernel
theorem d34_20 : decode method_4_code 20 = .ok (.lload_n 0, 1) := by decide +kernel
theorem d34_21 : decode method_4_code 21 = .ok (.ldc2_w 81, 3) := by decide +kernel
theorem d34_24 : decode method_4_code 24 = .ok (.lcmp, 1) := by decide +kernel
theorem d34_25 : decode method_4_code 25 = .ok (.ifCond .le 5, 3) := by decide +kernel
theorem d34_28 : decode method_4_code 28 = .ok (.iconst 3, 1) := by decide +kernel
theorem d34_29 : decode method_4_code 29 = .ok (.ireturn, 1) := by decide +kernel
theorem d34_30 : decode method_4_code 30 = .ok (.lload_n 0, 1) := by decide +kernel
theorem d34_31 : decode method_4_code 31 = .ok (.ldc2_w 83, 3) := by decide +kernel
theorem d34_34 : decode method_4_code 34 = .ok (.lcmp, 1) := by decide +kernel
theorem d34_35 : decode method_4_code 35 = .ok (.ifCond .le 5, 3) := by decide +kernel
theorem d34_38 : decode method_4_code 38 = .ok (.iconst 4, 1) := by decide +kernel
theorem d34_39 : decode method_4_code 39 = .ok (.ireturn, 1) := by decide +kernel
theorem d34_40 : decode method_4_code 40 = .ok (.lload_n 0, 1) := by decide +kernel
theorem d34_41 : decode method_4_code 41 = .ok (.ldc2_w 85, 3) := by decide +kernel
theorem d34_44 : decode method_4_code 44 = .ok (.lcmp, 1) := by decide +kernel
theorem d34_45 : decode method_4_code 45 = .ok (.ifCond .le 5, 3) := by decide +kernel
theorem d34_48 : decode method_4_code 48 = .ok (.iconst 5, 1) := by decide +kernel
theorem d34_49 : decode method_4_code 49 = .ok (.ireturn, 1) := by decide +kernel
theorem d34_50 : decode method_4_code 50 = .ok (.lload_n 0, 1) := by decide +kernel
theorem d34_51 : decode method_4_code 51 = .ok (.ldc2_w 87, 3) := by decide +kernel
theorem d34_54 : decode method_4_code 54 = .ok (.lcmp, 1) := by decide +kernel
theorem d34_55 : decode method_4_code 55 = .ok (.ifCond .le 6, 3) := by decide +kernel
theorem d34_58 : decode method_4_code 58 = .ok (.bipush 6, 2) := by decide +kernel
theorem d34_60 : decode method_4_code 60 = .ok (.ireturn, 1) := by decide +kernel
theorem d34_61 : decode method_4_code 61 = .ok (.lload_n 0, 1) := by decide +kernel
theorem d34_62 : decode method_4_code 62 = .ok (.ldc2_w 89, 3) := by decide +kernel
theorem d34_65 : decode method_4_code 65 = .ok (.lcmp, 1) := by decide +kernel
theorem d34_66 : decode method_4_code 66 = .ok (.ifCond .le 6, 3) := by decide +kernel
theorem d34_69 : decode method_4_code 69 = .ok (.bipush 7, 2) := by decide +kernel
theorem d34_71 : decode method_4_code 71 = .ok (.ireturn, 1) := by decide +kernel
theorem d34_72 : decode method_4_code 72 = .ok (.lload_n 0, 1) := by decide +kernel
theorem d34_73 : decode method_4_code 73 = .ok (.ldc2_w 91, 3) := by decide +kernel
theorem d34_76 : decode method_4_code 76 = .ok (.lcmp, 1) := by decide +kernel
theorem d34_77 : decode method_4_code 77 = .ok (.ifCond .le 6, 3) := by decide +kernel
theorem d34_80 : decode method_4_code 80 = .ok (.bipush 8, 2) := by decide +kernel
theorem d34_82 : decode method_4_code 82 = .ok (.ireturn, 1) := by decide +kernel
theorem d34_83 : decode method_4_code 83 = .ok (.lload_n 0, 1) := by decide +kernel
theorem d34_84 : decode method_4_code 84 = .ok (.ldc2_w 93, 3) := by decide +kernel
theorem d34_87 : decode method_4_code 87 = .ok (.lcmp, 1) := by decide +kernel
theorem d34_88 : decode method_4_code 88 = .ok (.ifCond .le 6, 3) := by decide +kernel
theorem d34_91 : decode method_4_code 91 = .ok (.bipush 9, 2) := by decide +kernel
theorem d34_93 : decode method_4_code 93 = .ok (.ireturn, 1) := by decide +kernel
theorem d34_94 : decode method_4_code 94 = .ok (.lload_n 0, 1) := by decide +kernel
theorem d34_95 : decode method_4_code 95 = .ok (.ldc2_w 95, 3) := by decide +kernel
theorem d34_98 : decode method_4_code 98 = .ok (.lcmp, 1) := by decide +kernel
theorem d34_99 : decode method_4_code 99 = .ok (.ifCond .le 6, 3) := by decide +kernel
theorem d34_102 : decode method_4_code 102 = .ok (.bipush 10, 2) := by decide +kernel
theorem d34_104 : decode method_4_code 104 = .ok (.ireturn, 1) := by decide +kernel
theorem d34_105 : decode method_4_code 105 = .ok (.lload_n 0, 1) := by decide +kernel
theorem d34_106 : decode method_4_code 106 = .ok (.ldc2_w 97, 3) := by decide +kernel
theorem d34_109 : decode method_4_code 109 = .ok (.lcmp, 1) := by decide +kernel
theorem d34_110 : decode method_4_code 110 = .ok (.ifCond .le 6, 3) := by decide +kernel
theorem d34_113 : decode method_4_code 113 = .ok (.bipush 11, 2) := by decide +kernel
theorem d34_115 : decode method_4_code 115 = .ok (.ireturn, 1) := by decide +kernel
theorem d34_116 : decode method_4_code 116 = .ok (.lload_n 0, 1) := by decide +kernel
theorem d34_117 : decode method_4_code 117 = .ok (.ldc2_w 99, 3) := by decide +kernel
theorem d34_120 : decode method_4_code 120 = .ok (.lcmp, 1) := by decide +kernel
theorem d34_121 : decode method_4_code 121 = .ok (.ifCond .le 6, 3) := by decide +kernel
theorem d34_124 : decode method_4_code 124 = .ok (.bipush 12, 2) := by decide +kernel
theorem d34_126 : decode method_4_code 126 = .ok (.ireturn, 1) := by decide +kernel
theorem d34_127 : decode method_4_code 127 = .ok (.lload_n 0, 1) := by decide +kernel
theorem d34_128 : decode method_4_code 128 = .ok (.ldc2_w 101, 3) := by decide +kernel
theorem d34_131 : decode method_4_code 131 = .ok (.lcmp, 1) := by decide +kernel
theorem d34_132 : decode method_4_code 132 = .ok (.ifCond .le 6, 3) := by decide +kernel
theorem d34_135 : decode method_4_code 135 = .ok (.bipush 13, 2) := by decide +kernel
theorem d34_137 : decode method_4_code 137 = .ok (.ireturn, 1) := by decide +kernel
theorem d34_138 : decode method_4_code 138 = .ok (.lload_n 0, 1) := by decide +kernel
theorem d34_139 : decode method_4_code 139 = .ok (.ldc2_w 103, 3) := by decide +kernel
theorem d34_142 : decode method_4_code 142 = .ok (.lcmp, 1) := by decide +kernel
theorem d34_143 : decode method_4_code 143 = .ok (.ifCond .le 6, 3) := by decide +kernel
theorem d34_146 : decode method_4_code 146 = .ok (.bipush 14, 2) := by decide +kernel
theorem d34_148 : decode method_4_code 148 = .ok (.ireturn, 1) := by decide +kernel
theorem d34_149 : decode method_4_code 149 = .ok (.lload_n 0, 1) := by decide +kernel
theorem d34_150 : decode method_4_code 150 = .ok (.ldc2_w 105, 3) := by decide +kernel
theorem d34_153 : decode method_4_code 153 = .ok (.lcmp, 1) := by decide +kernel
theorem d34_154 : decode method_4_code 154 = .ok (.ifCond .le 6, 3) := by decide +kernel
theorem d34_157 : decode method_4_code 157 = .ok (.bipush 15, 2) := by decide +kernel
theorem d34_159 : decode method_4_code 159 = .ok (.ireturn, 1) := by decide +kernel
theorem d34_160 : decode method_4_code 160 = .ok (.lload_n 0, 1) := by decide +kernel
theorem d34_161 : decode method_4_code 161 = .ok (.ldc2_w 107, 3) := by decide +kernel
theorem d34_164 : decode method_4_code 164 = .ok (.lcmp, 1) := by decide +kernel
theorem d34_165 : decode method_4_code 165 = .ok (.ifCond .le 6, 3) := by decide +kernel
theorem d34_168 : decode method_4_code 168 = .ok (.bipush 16, 2) := by decide +kernel
theorem d34_170 : decode method_4_code 170 = .ok (.ireturn, 1) := by decide +kernel
theorem d34_171 : decode method_4_code 171 = .ok (.lload_n 0, 1) := by decide +kernel
theorem d34_172 : decode method_4_code 172 = .ok (.ldc2_w 109, 3) := by decide +kernel
theorem d34_175 : decode method_4_code 175 = .ok (.lcmp, 1) := by decide +kernel
theorem d34_176 : decode method_4_code 176 = .ok (.ifCond .le 6, 3) := by decide +kernel
theorem d34_179 : decode method_4_code 179 = .ok (.bipush 17, 2) := by decide +kernel
theorem d34_181 : decode method_4_code 181 = .ok (.ireturn, 1) := by decide +kernel
theorem d34_182 : decode method_4_code 182 = .ok (.lload_n 0, 1) := by decide +kernel
theorem d34_183 : decode method_4_code 183 = .ok (.ldc2_w 111, 3) := by decide +kernel
theorem d34_186 : decode method_4_code 186 = .ok (.lcmp, 1) := by decide +kernel
theorem d34_187 : decode method_4_code 187 = .ok (.ifCond .le 6, 3) := by decide +kernel
theorem d34_190 : decode method_4_code 190 = .ok (.bipush 18, 2) := by decide +kernel
theorem d34_192 : decode method_4_code 192 = .ok (.ireturn, 1) := by decide +kernel
theorem d34_193 : decode method_4_code 193 = .ok (.bipush 19, 2) := by decide +kernel
theorem d34_195 : decode method_4_code 195 = .ok (.ireturn, 1) := by decide +kernel
set_option maxRecDepth 65536 in
set_option maxHeartbeats 40000000 in
theorem m_dgs (l : Launch) (Z : State) (a0 : Array Value) (hw : ∀ d ∈ tables_1, d.before a0 Z = true) (q : Int64) (n : Nat) (h0 : Heap) (n0 : Nat) (ho : Old Z n0 h0) (hn : n ≤ 2 ^ 63) (hq : q = Jvm.Free.SBG.negL n) :
    CN l (⟨"com/example/await_in_turn/awaitinturn/QueueEntryToStringPinLaw", "digits", "(J)I"⟩ : MethodName) method_4_code 2 (some .int) [] ({ frames := 0, cells := 0, slots := 0, locals := 0 } : Room) Z n0 h0 #[(.long q)] [] (fun r h => r = some (.int (Int32.ofNat (Jvm.Free.SBG.digitsL n))) ∧ h = h0) := by
  refine CN.walk (plainFor_of_name pn6) ho (L0 := #[.val (.long q), .second]) (fun m => rfl) ?_
  intro pG e s m below meth cO T hlk hret hnm A0
  have K0 : Keep h0 h0 [] := Keep.refl _ _
  refine f_lloadN A0 d34_0 (pc' := 1) rfl rfl ?_
  refine f_ldc2J A0 d34_1 (pc' := 4) rfl (wd hw 185 rfl) ?_
  refine f_lcmp A0 d34_4 (pc' := 5) rfl (lcmpW q (-10 : Int64)) rfl ?_
  by_cases c1 : (0 : Int32) < (lcmpW q (-10 : Int64))
  · refine f_ifN A0 d34_5 ((if0 _ _).trans (tlt c1).2.2.2) (pc' := 8) rfl ?_
    refine f_iconst A0 d34_8 (pc' := 9) rfl 1 rfl ?_
    exact f_retIN A0 hlk hret d34_9 (by decide) (by decide) K0 ⟨by rw [dgk1 ((lgt hn hq _ 10 rfl).mp c1)]; rfl, rfl⟩
  · refine f_ifY A0 d34_5 ((if0 _ _).trans (flt c1).2.2.2) (pc' := 10) (by decide) (by decide) ?_
    refine f_lloadN A0 d34_10 (pc' := 11) rfl rfl ?_
    refine f_ldc2J A0 d34_11 (pc' := 14) rfl (wd hw 233 rfl) ?_
    refine f_lcmp A0 d34_14 (pc' := 15) rfl (lcmpW q (-100 : Int64)) rfl ?_
    by_cases c2 : (0 : Int32) < (lcmpW q (-100 : Int64))
    · refine f_ifN A0 d34_15 ((if0 _ _).trans (tlt c2).2.2.2) (pc' := 18) rfl ?_
      refine f_iconst A0 d34_18 (pc' := 19) rfl 2 rfl ?_
      exact f_retIN A0 hlk hret d34_19 (by decide) (by decide) K0 ⟨by rw [dgk2 (Nat.le_of_not_lt fun z => c1 ((lgt hn hq _ 10 rfl).mpr z)) ((lgt hn hq _ 100 rfl).mp c2)]; rfl, rfl⟩
    · refine f_ifY A0 d34_15 ((if0 _ _).trans (flt c2).2.2.2) (pc' := 20) (by decide) (by decide) ?_
      refine f_lloadN A0 d34_20 (pc' := 21) rfl rfl ?_
      refine f_ldc2J A0 d34_21 (pc' := 24) rfl (wd hw 251 rfl) ?_
      refine f_lcmp A0 d34_24 (pc' := 25) rfl (lcmpW q (-1000 : Int64)) rfl ?_
      by_cases c3 : (0 : Int32) < (lcmpW q (-1000 : Int64))
      · refine f_ifN A0 d34_25 ((if0 _ _).trans (tlt c3).2.2.2) (pc' := 28) rfl ?_
        refine f_iconst A0 d34_28 (pc' := 29) rfl 3 rfl ?_
        exact f_retIN A0 hlk hret d34_29 (by decide) (by decide) K0 ⟨by rw [dgk3 (Nat.le_of_not_lt fun z => c2 ((lgt hn hq _ 100 rfl).mpr z)) ((lgt hn hq _ 1000 rfl).mp c3)]; rfl, rfl⟩
      · refine f_ifY A0 d34_25 ((if0 _ _).trans (flt c3).2.2.2) (pc' := 30) (by decide) (by decide) ?_
        refine f_lloadN A0 d34_30 (pc' := 31) rfl rfl ?_
        refine f_ldc2J A0 d34_31 (pc' := 34) rfl (wd hw 252 rfl) ?_
        refine f_lcmp A0 d34_34 (pc' := 35) rfl (lcmpW q (-10000 : Int64)) rfl ?_
        by_cases c4 : (0 : Int32) < (lcmpW q (-10000 : Int64))
        · refine f_ifN A0 d34_35 ((if0 _ _).trans (tlt c4).2.2.2) (pc' := 38) rfl ?_
          refine f_iconst A0 d34_38 (pc' := 39) rfl 4 rfl ?_
          exact f_retIN A0 hlk hret d34_39 (by decide) (by decide) K0 ⟨by rw [dgk4 (Nat.le_of_not_lt fun z => c3 ((lgt hn hq _ 1000 rfl).mpr z)) ((lgt hn hq _ 10000 rfl).mp c4)]; rfl, rfl⟩
        · refine f_ifY A0 d34_35 ((if0 _ _).trans (flt c4).2.2.2) (pc' := 40) (by decide) (by decide) ?_
          refine f_lloadN A0 d34_40 (pc' := 41) rfl rfl ?_
          refine f_ldc2J A0 d34_41 (pc' := 44) rfl (wd hw 253 rfl) ?_
          refine f_lcmp A0 d34_44 (pc' := 45) rfl (lcmpW q (-100000 : Int64)) rfl ?_
          by_cases c5 : (0 : Int32) < (lcmpW q (-100000 : Int64))
          · refine f_ifN A0 d34_45 ((if0 _ _).trans (tlt c5).2.2.2) (pc' := 48) rfl ?_
            refine f_iconst A0 d34_48 (pc' := 49) rfl 5 rfl ?_
            exact f_retIN A0 hlk hret d34_49 (by decide) (by decide) K0 ⟨by rw [dgk5 (Nat.le_of_not_lt fun z => c4 ((lgt hn hq _ 10000 rfl).mpr z)) ((lgt hn hq _ 100000 rfl).mp c5)]; rfl, rfl⟩
          · refine f_ifY A0 d34_45 ((if0 _ _).trans (flt c5).2.2.2) (pc' := 50) (by decide) (by decide) ?_
            refine f_lloadN A0 d34_50 (pc' := 51) rfl rfl ?_
            refine f_ldc2J A0 d34_51 (pc' := 54) rfl (wd hw 254 rfl) ?_
            refine f_lcmp A0 d34_54 (pc' := 55) rfl (lcmpW q (-1000000 : Int64)) rfl ?_
            by_cases c6 : (0 : Int32) < (lcmpW q (-1000000 : Int64))
            · refine f_ifN A0 d34_55 ((if0 _ _).trans (tlt c6).2.2.2) (pc' := 58) rfl ?_
              refine f_bipush A0 d34_58 (pc' := 60) rfl 6 rfl ?_
              exact f_retIN A0 hlk hret d34_60 (by decide) (by decide) K0 ⟨by rw [dgk6 (Nat.le_of_not_lt fun z => c5 ((lgt hn hq _ 100000 rfl).mpr z)) ((lgt hn hq _ 1000000 rfl).mp c6)]; rfl, rfl⟩
            · refine f_ifY A0 d34_55 ((if0 _ _).trans (flt c6).2.2.2) (pc' := 61) (by decide) (by decide) ?_
              refine f_lloadN A0 d34_61 (pc' := 62) rfl rfl ?_
              refine f_ldc2J A0 d34_62 (pc' := 65) rfl (wd hw 255 rfl) ?_
              refine f_lcmp A0 d34_65 (pc' := 66) rfl (lcmpW q (-10000000 : Int64)) rfl ?_
              by_cases c7 : (0 : Int32) < (lcmpW q (-10000000 : Int64))
              · refine f_ifN A0 d34_66 ((if0 _ _).trans (tlt c7).2.2.2) (pc' := 69) rfl ?_
                refine f_bipush A0 d34_69 (pc' := 71) rfl 7 rfl ?_
                exact f_retIN A0 hlk hret d34_71 (by decide) (by decide) K0 ⟨by rw [dgk7 (Nat.le_of_not_lt fun z => c6 ((lgt hn hq _ 1000000 rfl).mpr z)) ((lgt hn hq _ 10000000 rfl).mp c7)]; rfl, rfl⟩
              · refine f_ifY A0 d34_66 ((if0 _ _).trans (flt c7).2.2.2) (pc' := 72) (by decide) (by decide) ?_
                refine f_lloadN A0 d34_72 (pc' := 73) rfl rfl ?_
                refine f_ldc2J A0 d34_73 (pc' := 76) rfl (wd hw 256 rfl) ?_
                refine f_lcmp A0 d34_76 (pc' := 77) rfl (lcmpW q (-100000000 : Int64)) rfl ?_
                by_cases c8 : (0 : Int32) < (lcmpW q (-100000000 : Int64))
                · refine f_ifN A0 d34_77 ((if0 _ _).trans (tlt c8).2.2.2) (pc' := 80) rfl ?_
                  refine f_bipush A0 d34_80 (pc' := 82) rfl 8 rfl ?_
                  exact f_retIN A0 hlk hret d34_82 (by decide) (by decide) K0 ⟨by rw [dgk8 (Nat.le_of_not_lt fun z => c7 ((lgt hn hq _ 10000000 rfl).mpr z)) ((lgt hn hq _ 100000000 rfl).mp c8)]; rfl, rfl⟩
                · refine f_ifY A0 d34_77 ((if0 _ _).trans (flt c8).2.2.2) (pc' := 83) (by decide) (by decide) ?_
                  refine f_lloadN A0 d34_83 (pc' := 84) rfl rfl ?_
                  refine f_ldc2J A0 d34_84 (pc' := 87) rfl (wd hw 257 rfl) ?_
                  refine f_lcmp A0 d34_87 (pc' := 88) rfl (lcmpW q (-1000000000 : Int64)) rfl ?_
                  by_cases c9 : (0 : Int32) < (lcmpW q (-1000000000 : Int64))
                  · refine f_ifN A0 d34_88 ((if0 _ _).trans (tlt c9).2.2.2) (pc' := 91) rfl ?_
                    refine f_bipush A0 d34_91 (pc' := 93) rfl 9 rfl ?_
                    exact f_retIN A0 hlk hret d34_93 (by decide) (by decide) K0 ⟨by rw [dgk9 (Nat.le_of_not_lt fun z => c8 ((lgt hn hq _ 100000000 rfl).mpr z)) ((lgt hn hq _ 1000000000 rfl).mp c9)]; rfl, rfl⟩
                  · refine f_ifY A0 d34_88 ((if0 _ _).trans (flt c9).2.2.2) (pc' := 94) (by decide) (by decide) ?_
                    refine f_lloadN A0 d34_94 (pc' := 95) rfl rfl ?_
                    refine f_ldc2J A0 d34_95 (pc' := 98) rfl (wd hw 259 rfl) ?_
                    refine f_lcmp A0 d34_98 (pc' := 99) rfl (lcmpW q (-10000000000 : Int64)) rfl ?_
                    by_cases c10 : (0 : Int32) < (lcmpW q (-10000000000 : Int64))
                    · refine f_ifN A0 d34_99 ((if0 _ _).trans (tlt c10).2.2.2) (pc' := 102) rfl ?_
                      refine f_bipush A0 d34_102 (pc' := 104) rfl 10 rfl ?_
                      exact f_retIN A0 hlk hret d34_104 (by decide) (by decide) K0 ⟨by rw [dgk10 (Nat.le_of_not_lt fun z => c9 ((lgt hn hq _ 1000000000 rfl).mpr z)) ((lgt hn hq _ 10000000000 rfl).mp c10)]; rfl, rfl⟩
                    · refine f_ifY A0 d34_99 ((if0 _ _).trans (flt c10).2.2.2) (pc' := 105) (by decide) (by decide) ?_
                      refine f_lloadN A0 d34_105 (pc' := 106) rfl rfl ?_
                      refine f_ldc2J A0 d34_106 (pc' := 109) rfl (wd hw 260 rfl) ?_
                      refine f_lcmp A0 d34_109 (pc' := 110) rfl (lcmpW q (-100000000000 : Int64)) rfl ?_
                      by_cases c11 : (0 : Int32) < (lcmpW q (-100000000000 : Int64))
                      · refine f_ifN A0 d34_110 ((if0 _ _).trans (tlt c11).2.2.2) (pc' := 113) rfl ?_
                        refine f_bipush A0 d34_113 (pc' := 115) rfl 11 rfl ?_
                        exact f_retIN A0 hlk hret d34_115 (by decide) (by decide) K0 ⟨by rw [dgk11 (Nat.le_of_not_lt fun z => c10 ((lgt hn hq _ 10000000000 rfl).mpr z)) ((lgt hn hq _ 100000000000 rfl).mp c11)]; rfl, rfl⟩
                      · refine f_ifY A0 d34_110 ((if0 _ _).trans (flt c11).2.2.2) (pc' := 116) (by decide) (by decide) ?_
                        refine f_lloadN A0 d34_116 (pc' := 117) rfl rfl ?_
                        refine f_ldc2J A0 d34_117 (pc' := 120) rfl (wd hw 261 rfl) ?_
                        refine f_lcmp A0 d34_120 (pc' := 121) rfl (lcmpW q (-1000000000000 : Int64)) rfl ?_
                        by_cases c12 : (0 : Int32) < (lcmpW q (-1000000000000 : Int64))
                        · refine f_ifN A0 d34_121 ((if0 _ _).trans (tlt c12).2.2.2) (pc' := 124) rfl ?_
                          refine f_bipush A0 d34_124 (pc' := 126) rfl 12 rfl ?_
                          exact f_retIN A0 hlk hret d34_126 (by decide) (by decide) K0 ⟨by rw [dgk12 (Nat.le_of_not_lt fun z => c11 ((lgt hn hq _ 100000000000 rfl).mpr z)) ((lgt hn hq _ 1000000000000 rfl).mp c12)]; rfl, rfl⟩
                        · refine f_ifY A0 d34_121 ((if0 _ _).trans (flt c12).2.2.2) (pc' := 127) (by decide) (by decide) ?_
                          refine f_lloadN A0 d34_127 (pc' := 128) rfl rfl ?_
                          refine f_ldc2J A0 d34_128 (pc' := 131) rfl (wd hw 262 rfl) ?_
                          refine f_lcmp A0 d34_131 (pc' := 132) rfl (lcmpW q (-10000000000000 : Int64)) rfl ?_
                          by_cases c13 : (0 : Int32) < (lcmpW q (-10000000000000 : Int64))
                          · refine f_ifN A0 d34_132 ((if0 _ _).trans (tlt c13).2.2.2) (pc' := 135) rfl ?_
                            refine f_bipush A0 d34_135 (pc' := 137) rfl 13 rfl ?_
                            exact f_retIN A0 hlk hret d34_137 (by decide) (by decide) K0 ⟨by rw [dgk13 (Nat.le_of_not_lt fun z => c12 ((lgt hn hq _ 1000000000000 rfl).mpr z)) ((lgt hn hq _ 10000000000000 rfl).mp c13)]; rfl, rfl⟩
                          · refine f_ifY A0 d34_132 ((if0 _ _).trans (flt c13).2.2.2) (pc' := 138) (by decide) (by decide) ?_
                            refine f_lloadN A0 d34_138 (pc' := 139) rfl rfl ?_
                            refine f_ldc2J A0 d34_139 (pc' := 142) rfl (wd hw 263 rfl) ?_
                            refine f_lcmp A0 d34_142 (pc' := 143) rfl (lcmpW q (-100000000000000 : Int64)) rfl ?_
                            by_cases c14 : (0 : Int32) < (lcmpW q (-100000000000000 : Int64))
                            · refine f_ifN A0 d34_143 ((if0 _ _).trans (tlt c14).2.2.2) (pc' := 146) rfl ?_
                              refine f_bipush A0 d34_146 (pc' := 148) rfl 14 rfl ?_
                              exact f_retIN A0 hlk hret d34_148 (by decide) (by decide) K0 ⟨by rw [dgk14 (Nat.le_of_not_lt fun z => c13 ((lgt hn hq _ 10000000000000 rfl).mpr z)) ((lgt hn hq _ 100000000000000 rfl).mp c14)]; rfl, rfl⟩
                            · refine f_ifY A0 d34_143 ((if0 _ _).trans (flt c14).2.2.2) (pc' := 149) (by decide) (by decide) ?_
                              refine f_lloadN A0 d34_149 (pc' := 150) rfl rfl ?_
                              refine f_ldc2J A0 d34_150 (pc' := 153) rfl (wd hw 264 rfl) ?_
                              refine f_lcmp A0 d34_153 (pc' := 154) rfl (lcmpW q (-1000000000000000 : Int64)) rfl ?_
                              by_cases c15 : (0 : Int32) < (lcmpW q (-1000000000000000 : Int64))
                              · refine f_ifN A0 d34_154 ((if0 _ _).trans (tlt c15).2.2.2) (pc' := 157) rfl ?_
                                refine f_bipush A0 d34_157 (pc' := 159) rfl 15 rfl ?_
                                exact f_retIN A0 hlk hret d34_159 (by decide) (by decide) K0 ⟨by rw [dgk15 (Nat.le_of_not_lt fun z => c14 ((lgt hn hq _ 100000000000000 rfl).mpr z)) ((lgt hn hq _ 1000000000000000 rfl).mp c15)]; rfl, rfl⟩
                              · refine f_ifY A0 d34_154 ((if0 _ _).trans (flt c15).2.2.2) (pc' := 160) (by decide) (by decide) ?_
                                refine f_lloadN A0 d34_160 (pc' := 161) rfl rfl ?_
                                refine f_ldc2J A0 d34_161 (pc' := 164) rfl (wd hw 265 rfl) ?_
                                refine f_lcmp A0 d34_164 (pc' := 165) rfl (lcmpW q (-10000000000000000 : Int64)) rfl ?_
                                by_cases c16 : (0 : Int32) < (lcmpW q (-10000000000000000 : Int64))
                                · refine f_ifN A0 d34_165 ((if0 _ _).trans (tlt c16).2.2.2) (pc' := 168) rfl ?_
                                  refine f_bipush A0 d34_168 (pc' := 170) rfl 16 rfl ?_
                                  exact f_retIN A0 hlk hret d34_170 (by decide) (by decide) K0 ⟨by rw [dgk16 (Nat.le_of_not_lt fun z => c15 ((lgt hn hq _ 1000000000000000 rfl).mpr z)) ((lgt hn hq _ 10000000000000000 rfl).mp c16)]; rfl, rfl⟩
                                · refine f_ifY A0 d34_165 ((if0 _ _).trans (flt c16).2.2.2) (pc' := 171) (by decide) (by decide) ?_
                                  refine f_lloadN A0 d34_171 (pc' := 172) rfl rfl ?_
                                  refine f_ldc2J A0 d34_172 (pc' := 175) rfl (wd hw 266 rfl) ?_
                                  refine f_lcmp A0 d34_175 (pc' := 176) rfl (lcmpW q (-100000000000000000 : Int64)) rfl ?_
                                  by_cases c17 : (0 : Int32) < (lcmpW q (-100000000000000000 : Int64))
                                  · refine f_ifN A0 d34_176 ((if0 _ _).trans (tlt c17).2.2.2) (pc' := 179) rfl ?_
                                    refine f_bipush A0 d34_179 (pc' := 181) rfl 17 rfl ?_
                                    exact f_retIN A0 hlk hret d34_181 (by decide) (by decide) K0 ⟨by rw [dgk17 (Nat.le_of_not_lt fun z => c16 ((lgt hn hq _ 10000000000000000 rfl).mpr z)) ((lgt hn hq _ 100000000000000000 rfl).mp c17)]; rfl, rfl⟩
                                  · refine f_ifY A0 d34_176 ((if0 _ _).trans (flt c17).2.2.2) (pc' := 182) (by decide) (by decide) ?_
                                    refine f_lloadN A0 d34_182 (pc' := 183) rfl rfl ?_
                                    refine f_ldc2J A0 d34_183 (pc' := 186) rfl (wd hw 267 rfl) ?_
                                    refine f_lcmp A0 d34_186 (pc' := 187) rfl (lcmpW q (-1000000000000000000 : Int64)) rfl ?_
                                    by_cases c18 : (0 : Int32) < (lcmpW q (-1000000000000000000 : Int64))
                                    · refine f_ifN A0 d34_187 ((if0 _ _).trans (tlt c18).2.2.2) (pc' := 190) rfl ?_
                                      refine f_bipush A0 d34_190 (pc' := 192) rfl 18 rfl ?_
                                      exact f_retIN A0 hlk hret d34_192 (by decide) (by decide) K0 ⟨by rw [dgk18 (Nat.le_of_not_lt fun z => c17 ((lgt hn hq _ 100000000000000000 rfl).mpr z)) ((lgt hn hq _ 1000000000000000000 rfl).mp c18)]; rfl, rfl⟩
                                    · refine f_ifY A0 d34_187 ((if0 _ _).trans (flt c18).2.2.2) (pc' := 193) (by decide) (by decide) ?_
                                      refine f_bipush A0 d34_193 (pc' := 195) rfl 19 rfl ?_
                                      exact f_retIN A0 hlk hret d34_195 (by decide) (by decide) K0 ⟨by rw [dgk19 (Nat.le_of_not_lt fun z => c18 ((lgt hn hq _ 1000000000000000000 rfl).mpr z)) hn]; rfl, rfl⟩
theorem d40_0 : decode method_3_code 0 = .ok (.iload 5, 2) := by decide +kernel
theorem d40_2 : decode method_3_code 2 = .ok (.iload 4, 2) := by decide +kernel
theorem d40_4 : decode method_3_code 4 = .ok (.if_icmp .lt 5, 3) := by decide +kernel
theorem d40_9 : decode method_3_code 9 = .ok (.lload_n 2, 1) := by decide +kernel
theorem d40_10 : decode method_3_code 10 = .ok (.lload 6, 2) := by decide +kernel
theorem d40_12 : decode method_3_code 12 = .ok (.ldiv, 1) := by decide +kernel
theorem d40_13 : decode method_3_code 13 = .ok (.ldc2_w 39, 3) := by decide +kernel
theorem d40_16 : decode method_3_code 16 = .ok (.lrem, 1) := by decide +kernel
theorem d40_17 : decode method_3_code 17 = .ok (.lneg, 1) := by decide +kernel
theorem d40_18 : decode method_3_code 18 = .ok (.lstore 8, 2) := by decide +kernel
theorem d40_20 : decode method_3_code 20 = .ok (.aload_n 0, 1) := by decide +kernel
theorem d40_21 : decode method_3_code 21 = .ok (.iload_n 1, 1) := by decide +kernel
theorem d40_22 : decode method_3_code 22 = .ok (.iload 5, 2) := by decide +kernel
theorem d40_24 : decode method_3_code 24 = .ok (.isub, 1) := by decide +kernel
theorem d40_25 : decode method_3_code 25 = .ok (.invokevirtual 31, 3) := by decide +kernel
theorem pd25 : parseMethodDescriptor "(I)C" = some ⟨[.int], some .char⟩ := by decide +kernel
theorem d40_28 : decode method_3_code 28 = .ok (.ldc2_w 75, 3) := by decide +kernel
theorem d40_31 : decode method_3_code 31 = .ok (.lload 8, 2) := by decide +kernel
theorem d40_33 : decode method_3_code 33 = .ok (.ladd, 1) := by decide +kernel
theorem d40_34 : decode method_3_code 34 = .ok (.l2i, 1) := by decide +kernel
theorem d40_35 : decode method_3_code 35 = .ok (.i2c, 1) := by decide +kernel
theorem d40_36 : decode method_3_code 36 = .ok (.if_icmp .ne 7, 3) := by decide +kernel
theorem d40_39 : decode method_3_code 39 = .ok (.iconst 1, 1) := by decide +kernel
theorem d40_40 : decode method_3_code 40 = .ok (.goto 4, 3) := by decide +kernel
theorem d40_44 : decode method_3_code 44 = .ok (.ireturn, 1) := by decide +kernel
theorem d40_7 : decode method_3_code 7 = .ok (.iconst 1, 1) := by decide +kernel
theorem d40_8 : decode method_3_code 8 = .ok (.ireturn, 1) := by decide +kernel
set_option maxRecDepth 65536 in
set_option maxHeartbeats 40000000 in
theorem m_dig (l : Launch) (Z : State) (a0 : Array Value) (hw : ∀ d ∈ tables_1, d.before a0 Z = true) (x t : Addr) (cs : List Int32) (last nd k : Int32) (q pw : Int64) (zc : Int32) (O2 : Sta Z Z.heap "java/lang/String" "COMPACT_STRINGS" "Z" (.int zc)) (P5 : ¬ zc = 0) (fm : Value) (O4 : Sta Z Z.heap "jdk/internal/util/Preconditions" "SIOOBE_FORMATTER" "Ljava/util/function/BiFunction;" fm) (rG3 : fm.isRef = true) (h0 : Heap) (n0 : Nat) (ho : Old Z n0 h0) (F : Str Z h0 x t cs) (lat : ∀ c ∈ cs, ¬ (255 : Int32) < c) (hp : pw ≠ 0) (H : k < nd → ∃ i : Nat, i < cs.length ∧ last - k = Int32.ofNat i ∧ (((48 : Int64) + (-((q / pw) % (10 : Int64)))).toInt32).toUInt32.toUInt16.toUInt32.toInt32 = cs.getD i 0) :
    CN l (⟨"com/example/await_in_turn/awaitinturn/QueueEntryToStringPinLaw", "dig", "(Ljava/lang/String;IJIIJ)Z"⟩ : MethodName) method_3_code 10 (some .boolean) [] ({ frames := 5, cells := 0, slots := 0, locals := 80 } : Room) Z n0 h0 #[(.ref x), (.int last), (.long q), (.int nd), (.int k), (.long pw)] [] (fun r h => r = some (.int 1) ∧ h = h0) := by
  refine CN.walk (plainFor_of_name pn6) ho (L0 := #[.val (.ref x), .val (.int last), .val (.long q), .second, .val (.int nd), .val (.int k), .val (.long pw), .second, .unset, .unset]) (fun m => rfl) ?_
  intro pG e s m below meth cO T hlk hret hnm A0
  have K0 : Keep h0 h0 [] := Keep.refl _ _
  refine f_iload A0 d40_0 (pc' := 2) rfl rfl ?_
  refine f_iload A0 d40_2 (pc' := 4) rfl rfl ?_
  by_cases qk : k < nd
  · refine f_icY A0 d40_4 (tlt qk).1 (pc' := 9) (by decide) (by decide) ?_
    obtain ⟨i, hi, hj, hc⟩ := H qk
    refine f_lloadN A0 d40_9 (pc' := 10) rfl rfl ?_
    refine f_lload A0 d40_10 (pc' := 12) rfl rfl ?_
    refine f_ldiv A0 d40_12 (pc' := 13) rfl hp (q / pw) rfl ?_
    refine f_ldc2J A0 d40_13 (pc' := 16) rfl (wd hw 212 rfl) ?_
    refine f_lrem A0 d40_16 (pc' := 17) rfl (by decide) ((q / pw) % (10 : Int64)) rfl ?_
    refine f_lneg A0 d40_17 (pc' := 18) rfl (-((q / pw) % (10 : Int64))) rfl ?_
    refine f_lstore A0 d40_18 (pc' := 20) rfl (L' := #[.val (.ref x), .val (.int last), .val (.long q), .second, .val (.int nd), .val (.int k), .val (.long pw), .second, .val (.long (-((q / pw) % (10 : Int64)))), .second]) rfl ?_
    refine f_aloadN A0 d40_20 (pc' := 21) rfl rfl rfl ?_
    refine f_iloadN A0 d40_21 (pc' := 22) rfl rfl ?_
    refine f_iload A0 d40_22 (pc' := 24) rfl rfl ?_
    refine f_isub A0 d40_24 (pc' := 25) rfl (Int32.ofNat i) hj ?_
    refine f_callV A0 (a := x) d40_25 (pc' := 28) rfl (wd hw 187 rfl) (wd hw 188 rfl) (nfS A0 (wd hw 190 rfl)) (wd hw 190 rfl) (wd hw 189 rfl) (by decide) F.exa pd25 [(.int (Int32.ofNat i))] [] rfl rfl rfl 0 (Nat.le_of_eq rfl) (payCh (W := 0) A0 hw (wd hw 1 rfl) F lat O2 P5 O4 rG3 i hi rfl (by decide) (by decide)) (kc := 0) (ks := 0) (by decide) (by decide) all0 (fun q => nomatch q) fun v258 T258 h258 L258 A258 K258 q258 => ?_
    obtain ⟨rfl, hh258⟩ := q258
    obtain rfl := hh258.symm
    show Wp pG e below _ T258 (mkF m 28 _ [(.int (cs.getD i 0))])
    refine f_ldc2J A258 d40_28 (pc' := 31) rfl (wd hw 213 rfl) ?_
    refine f_lload A258 d40_31 (pc' := 33) rfl rfl ?_
    refine f_ladd A258 d40_33 (pc' := 34) rfl ((48 : Int64) + (-((q / pw) % (10 : Int64)))) rfl ?_
    refine f_l2i A258 d40_34 (pc' := 35) rfl (((48 : Int64) + (-((q / pw) % (10 : Int64)))).toInt32) rfl ?_
    refine f_i2c A258 d40_35 (pc' := 36) rfl (cs.getD i 0) hc ?_
    refine f_icN A258 d40_36 (teq rfl).2 (pc' := 39) rfl ?_
    refine f_iconst A258 d40_39 (pc' := 40) rfl 1 rfl ?_
    refine f_goto A258 d40_40 (pc' := 44) (by decide) (by decide) ?_
    exact f_retBN A258 hlk hret d40_44 (by decide) (1 : Int32) (by decide) (by decide) (by decide) K0 ⟨rfl, rfl⟩
  · refine f_icN A0 d40_4 (flt qk).1 (pc' := 7) rfl ?_
    refine f_iconst A0 d40_7 (pc' := 8) rfl 1 rfl ?_
    exact f_retBN A0 hlk hret d40_8 (by decide) (1 : Int32) (by decide) (by decide) (by decide) K0 ⟨rfl, rfl⟩
theorem pd26 : parseMethodDescriptor "(Ljava/lang/String;IJIIJ)Z" = some ⟨[(.object "java/lang/String"), .int, .long, .int, .int, .long], some .boolean⟩ := by decide +kernel
set_option maxRecDepth 65536 in
set_option maxHeartbeats 40000000 in
theorem m_dgt (l : Launch) (Z : State) (a0 : Array Value) (hw : ∀ d ∈ tables_1, d.before a0 Z = true) (tk : Int64) (i1 i2 i3 ls : Int32) (c0 c1 c2 len ng : Int32) (y a t : Addr) (q : Int64) (n dn pl : Nat) (As : List Int32) (zc : Int32) (O2 : Sta Z Z.heap "java/lang/String" "COMPACT_STRINGS" "Z" (.int zc)) (P5 : ¬ zc = 0) (fm : Value) (O4 : Sta Z Z.heap "jdk/internal/util/Preconditions" "SIOOBE_FORMATTER" "Ljava/util/function/BiFunction;" fm) (rG3 : fm.isRef = true) (h0 : Heap) (n0 : Nat) (hEL : EW Z a0 ELs) {pG : Program} {e : Env} {s : State} {m : MethodId} {below : List Frame} {meth : Method} {cO : Code} (hlk : meth.locks = false) (hret : meth.sig.returnType = ret) (vm : Vm) (T : State) (h : Heap) (locs : List Loc) (A : WS pG l e room_1 s m #[(.long tk), (.int i1), (.int i2), (.int i3), (.int ls)] below meth cO Z ELs n0 x.cls code maxLocals true vm T h locs 32 3392) (Kh : Keep h0 h []) (F : Str Z h a t (As ++ (dlist n dn ++ [(41 : Int32)]))) (lat : ∀ c ∈ (As ++ (dlist n dn ++ [(41 : Int32)])), ¬ (255 : Int32) < c) (hn : n ≤ 2 ^ 63) (hq : q = Jvm.Free.SBG.negL n) (hdn : dn ≤ 20) (hpl : As.length = pl) (hpl2 : pl ≤ 20) :
    Wp pG e below (PW s Z ELs n0 h0 [] (fun v h => v = some (.int 1)) room_1.cells room_1.slots) T (mkF m 423 #[.val (.long tk), .second, .val (.int i1), .val (.int i2), .val (.int i3), .val (.int ls), .val (.int c0), .val (.int c1), .val (.int c2), .val (.int len), .val (.ref y), .val (.ref a), .val (.int ng), .val (.long q), .second, .val (.int (Int32.ofNat dn)), .val (.int (Int32.ofNat (pl + dn + 1 - 2)))] []) := by
  refine f_aload A at_423 (pc' := 425) rfl rfl rfl ?_
  refine f_iload A at_425 (pc' := 427) rfl rfl ?_
  refine f_lload A at_427 (pc' := 429) rfl rfl ?_
  refine f_iload A at_429 (pc' := 431) rfl rfl ?_
  refine f_iconst A at_431 (pc' := 432) rfl 0 rfl ?_
  refine f_lconst A at_432 (pc' := 433) rfl 1 rfl ?_
  refine f_callS A at_433 (pc' := 436) rfl (wd hw 209 rfl) (wd hw 210 rfl) (wd hw 183 rfl) (wd hw 211 rfl) (by decide) pd26 [(.ref a), (.int (Int32.ofNat (pl + dn + 1 - 2))), (.long q), (.int (Int32.ofNat dn)), (.int (0 : Int32)), (.long (1 : Int64))] [] rfl rfl rfl 0 (Nat.le_of_eq rfl) (CN.pay (W := 0) A (m_dig l Z a0 hw a t _ (Int32.ofNat (pl + dn + 1 - 2)) (Int32.ofNat dn) (0 : Int32) q (1 : Int64) zc O2 P5 fm O4 rG3 h n0 A.old F lat (by decide) (digH (A := As) (k := 0) (P := 1) hn hq hdn hpl hpl2 rfl (by decide) (by decide) rfl (by decide) rfl rfl)) (wd hw 211 rfl) (wd hw 183 rfl) (by decide) (by decide)) (kc := 0) (ks := 0) (by decide) (by decide) all0 (fun _ => sf0) fun v259 T259 h259 L259 A259 K259 q259 => ?_
  obtain ⟨rfl, hh259⟩ := q259
  obtain rfl := hh259.symm
  show Wp pG e below _ T259 (mkF m 436 _ [(.int (1 : Int32))])
  refine f_ifN A259 at_436 ((if0 _ _).trans (feq (by decide : ¬ (1 : Int32) = (0 : Int32))).1) (pc' := 439) rfl ?_
  refine f_aload A259 at_439 (pc' := 441) rfl rfl rfl ?_
  refine f_iload A259 at_441 (pc' := 443) rfl rfl ?_
  refine f_lload A259 at_443 (pc' := 445) rfl rfl ?_
  refine f_iload A259 at_445 (pc' := 447) rfl rfl ?_
  refine f_iconst A259 at_447 (pc' := 448) rfl 1 rfl ?_
  refine f_ldc2J A259 at_448 (pc' := 451) rfl (wd hw 212 rfl) ?_
  refine f_callS A259 at_451 (pc' := 454) rfl (wd hw 209 rfl) (wd hw 210 rfl) (wd hw 183 rfl) (wd hw 211 rfl) (by decide) pd26 [(.ref a), (.int (Int32.ofNat (pl + dn + 1 - 2))), (.long q), (.int (Int32.ofNat dn)), (.int (1 : Int32)), (.long (10 : Int64))] [] rfl rfl rfl 0 (Nat.le_of_eq rfl) (CN.pay (W := 0) A259 (m_dig l Z a0 hw a t _ (Int32.ofNat (pl + dn + 1 - 2)) (Int32.ofNat dn) (1 : Int32) q (10 : Int64) zc O2 P5 fm O4 rG3 h n0 A259.old F lat (by decide) (digH (A := As) (k := 1) (P := 10) hn hq hdn hpl hpl2 rfl (by decide) (by decide) rfl (by decide) rfl rfl)) (wd hw 211 rfl) (wd hw 183 rfl) (by decide) (by decide)) (kc := 0) (ks := 0) (by decide) (by decide) all0 (fun _ => sf0) fun v260 T260 h260 L260 A260 K260 q260 => ?_
  obtain ⟨rfl, hh260⟩ := q260
  obtain rfl := hh260.symm
  show Wp pG e below _ T260 (mkF m 454 _ [(.int (1 : Int32))])
  refine f_ifN A260 at_454 ((if0 _ _).trans (feq (by decide : ¬ (1 : Int32) = (0 : Int32))).1) (pc' := 457) rfl ?_
  refine f_aload A260 at_457 (pc' := 459) rfl rfl rfl ?_
  refine f_iload A260 at_459 (pc' := 461) rfl rfl ?_
  refine f_lload A260 at_461 (pc' := 463) rfl rfl ?_
  refine f_iload A260 at_463 (pc' := 465) rfl rfl ?_
  refine f_iconst A260 at_465 (pc' := 466) rfl 2 rfl ?_
  refine f_ldc2J A260 at_466 (pc' := 469) rfl (wd hw 214 rfl) ?_
  refine f_callS A260 at_469 (pc' := 472) rfl (wd hw 209 rfl) (wd hw 210 rfl) (wd hw 183 rfl) (wd hw 211 rfl) (by decide) pd26 [(.ref a), (.int (Int32.ofNat (pl + dn + 1 - 2))), (.long q), (.int (Int32.ofNat dn)), (.int (2 : Int32)), (.long (100 : Int64))] [] rfl rfl rfl 0 (Nat.le_of_eq rfl) (CN.pay (W := 0) A260 (m_dig l Z a0 hw a t _ (Int32.ofNat (pl + dn + 1 - 2)) (Int32.ofNat dn) (2 : Int32) q (100 : Int64) zc O2 P5 fm O4 rG3 h n0 A260.old F lat (by decide) (digH (A := As) (k := 2) (P := 100) hn hq hdn hpl hpl2 rfl (by decide) (by decide) rfl (by decide) rfl rfl)) (wd hw 211 rfl) (wd hw 183 rfl) (by decide) (by decide)) (kc := 0) (ks := 0) (by decide) (by decide) all0 (fun _ => sf0) fun v261 T261 h261 L261 A261 K261 q261 => ?_
  obtain ⟨rfl, hh261⟩ := q261
  obtain rfl := hh261.symm
  show Wp pG e below _ T261 (mkF m 472 _ [(.int (1 : Int32))])
  refine f_ifN A261 at_472 ((if0 _ _).trans (feq (by decide : ¬ (1 : Int32) = (0 : Int32))).1) (pc' := 475) rfl ?_
  refine f_aload A261 at_475 (pc' := 477) rfl rfl rfl ?_
  refine f_iload A261 at_477 (pc' := 479) rfl rfl ?_
  refine f_lload A261 at_479 (pc' := 481) rfl rfl ?_
  refine f_iload A261 at_481 (pc' := 483) rfl rfl ?_
  refine f_iconst A261 at_483 (pc' := 484) rfl 3 rfl ?_
  refine f_ldc2J A261 at_484 (pc' := 487) rfl (wd hw 215 rfl) ?_
  refine f_callS A261 at_487 (pc' := 490) rfl (wd hw 209 rfl) (wd hw 210 rfl) (wd hw 183 rfl) (wd hw 211 rfl) (by decide) pd26 [(.ref a), (.int (Int32.ofNat (pl + dn + 1 - 2))), (.long q), (.int (Int32.ofNat dn)), (.int (3 : Int32)), (.long (1000 : Int64))] [] rfl rfl rfl 0 (Nat.le_of_eq rfl) (CN.pay (W := 0) A261 (m_dig l Z a0 hw a t _ (Int32.ofNat (pl + dn + 1 - 2)) (Int32.ofNat dn) (3 : Int32) q (1000 : Int64) zc O2 P5 fm O4 rG3 h n0 A261.old F lat (by decide) (digH (A := As) (k := 3) (P := 1000) hn hq hdn hpl hpl2 rfl (by decide) (by decide) rfl (by decide) rfl rfl)) (wd hw 211 rfl) (wd hw 183 rfl) (by decide) (by decide)) (kc := 0) (ks := 0) (by decide) (by decide) all0 (fun _ => sf0) fun v262 T262 h262 L262 A262 K262 q262 => ?_
  obtain ⟨rfl, hh262⟩ := q262
  obtain rfl := hh262.symm
  show Wp pG e below _ T262 (mkF m 490 _ [(.int (1 : Int32))])
  refine f_ifN A262 at_490 ((if0 _ _).trans (feq (by decide : ¬ (1 : Int32) = (0 : Int32))).1) (pc' := 493) rfl ?_
  refine f_aload A262 at_493 (pc' := 495) rfl rfl rfl ?_
  refine f_iload A262 at_495 (pc' := 497) rfl rfl ?_
  refine f_lload A262 at_497 (pc' := 499) rfl rfl ?_
  refine f_iload A262 at_499 (pc' := 501) rfl rfl ?_
  refine f_iconst A262 at_501 (pc' := 502) rfl 4 rfl ?_
  refine f_ldc2J A262 at_502 (pc' := 505) rfl (wd hw 216 rfl) ?_
  refine f_callS A262 at_505 (pc' := 508) rfl (wd hw 209 rfl) (wd hw 210 rfl) (wd hw 183 rfl) (wd hw 211 rfl) (by decide) pd26 [(.ref a), (.int (Int32.ofNat (pl + dn + 1 - 2))), (.long q), (.int (Int32.ofNat dn)), (.int (4 : Int32)), (.long (10000 : Int64))] [] rfl rfl rfl 0 (Nat.le_of_eq rfl) (CN.pay (W := 0) A262 (m_dig l Z a0 hw a t _ (Int32.ofNat (pl + dn + 1 - 2)) (Int32.ofNat dn) (4 : Int32) q (10000 : Int64) zc O2 P5 fm O4 rG3 h n0 A262.old F lat (by decide) (digH (A := As) (k := 4) (P := 10000) hn hq hdn hpl hpl2 rfl (by decide) (by decide) rfl (by decide) rfl rfl)) (wd hw 211 rfl) (wd hw 183 rfl) (by decide) (by decide)) (kc := 0) (ks := 0) (by decide) (by decide) all0 (fun _ => sf0) fun v263 T263 h263 L263 A263 K263 q263 => ?_
  obtain ⟨rfl, hh263⟩ := q263
  obtain rfl := hh263.symm
  show Wp pG e below _ T263 (mkF m 508 _ [(.int (1 : Int32))])
  refine f_ifN A263 at_508 ((if0 _ _).trans (feq (by decide : ¬ (1 : Int32) = (0 : Int32))).1) (pc' := 511) rfl ?_
  refine f_aload A263 at_511 (pc' := 513) rfl rfl rfl ?_
  refine f_iload A263 at_513 (pc' := 515) rfl rfl ?_
  refine f_lload A263 at_515 (pc' := 517) rfl rfl ?_
  refine f_iload A263 at_517 (pc' := 519) rfl rfl ?_
  refine f_iconst A263 at_519 (pc' := 520) rfl 5 rfl ?_
  refine f_ldc2J A263 at_520 (pc' := 523) rfl (wd hw 217 rfl) ?_
  refine f_callS A263 at_523 (pc' := 526) rfl (wd hw 209 rfl) (wd hw 210 rfl) (wd hw 183 rfl) (wd hw 211 rfl) (by decide) pd26 [(.ref a), (.int (Int32.ofNat (pl + dn + 1 - 2))), (.long q), (.int (Int32.ofNat dn)), (.int (5 : Int32)), (.long (100000 : Int64))] [] rfl rfl rfl 0 (Nat.le_of_eq rfl) (CN.pay (W := 0) A263 (m_dig l Z a0 hw a t _ (Int32.ofNat (pl + dn + 1 - 2)) (Int32.ofNat dn) (5 : Int32) q (100000 : Int64) zc O2 P5 fm O4 rG3 h n0 A263.old F lat (by decide) (digH (A := As) (k := 5) (P := 100000) hn hq hdn hpl hpl2 rfl (by decide) (by decide) rfl (by decide) rfl rfl)) (wd hw 211 rfl) (wd hw 183 rfl) (by decide) (by decide)) (kc := 0) (ks := 0) (by decide) (by decide) all0 (fun _ => sf0) fun v264 T264 h264 L264 A264 K264 q264 => ?_
  obtain ⟨rfl, hh264⟩ := q264
  obtain rfl := hh264.symm
  show Wp pG e below _ T264 (mkF m 526 _ [(.int (1 : Int32))])
  refine f_ifN A264 at_526 ((if0 _ _).trans (feq (by decide : ¬ (1 : Int32) = (0 : Int32))).1) (pc' := 529) rfl ?_
  refine f_aload A264 at_529 (pc' := 531) rfl rfl rfl ?_
  refine f_iload A264 at_531 (pc' := 533) rfl rfl ?_
  refine f_lload A264 at_533 (pc' := 535) rfl rfl ?_
  refine f_iload A264 at_535 (pc' := 537) rfl rfl ?_
  refine f_bipush A264 at_537 (pc' := 539) rfl 6 rfl ?_
  refine f_ldc2J A264 at_539 (pc' := 542) rfl (wd hw 218 rfl) ?_
  refine f_callS A264 at_542 (pc' := 545) rfl (wd hw 209 rfl) (wd hw 210 rfl) (wd hw 183 rfl) (wd hw 211 rfl) (by decide) pd26 [(.ref a), (.int (Int32.ofNat (pl + dn + 1 - 2))), (.long q), (.int (Int32.ofNat dn)), (.int (6 : Int32)), (.long (1000000 : Int64))] [] rfl rfl rfl 0 (Nat.le_of_eq rfl) (CN.pay (W := 0) A264 (m_dig l Z a0 hw a t _ (Int32.ofNat (pl + dn + 1 - 2)) (Int32.ofNat dn) (6 : Int32) q (1000000 : Int64) zc O2 P5 fm O4 rG3 h n0 A264.old F lat (by decide) (digH (A := As) (k := 6) (P := 1000000) hn hq hdn hpl hpl2 rfl (by decide) (by decide) rfl (by decide) rfl rfl)) (wd hw 211 rfl) (wd hw 183 rfl) (by decide) (by decide)) (kc := 0) (ks := 0) (by decide) (by decide) all0 (fun _ => sf0) fun v265 T265 h265 L265 A265 K265 q265 => ?_
  obtain ⟨rfl, hh265⟩ := q265
  obtain rfl := hh265.symm
  show Wp pG e below _ T265 (mkF m 545 _ [(.int (1 : Int32))])
  refine f_ifN A265 at_545 ((if0 _ _).trans (feq (by decide : ¬ (1 : Int32) = (0 : Int32))).1) (pc' := 548) rfl ?_
  refine f_aload A265 at_548 (pc' := 550) rfl rfl rfl ?_
  refine f_iload A265 at_550 (pc' := 552) rfl rfl ?_
  refine f_lload A265 at_552 (pc' := 554) rfl rfl ?_
  refine f_iload A265 at_554 (pc' := 556) rfl rfl ?_
  refine f_bipush A265 at_556 (pc' := 558) rfl 7 rfl ?_
  refine f_ldc2J A265 at_558 (pc' := 561) rfl (wd hw 219 rfl) ?_
  refine f_callS A265 at_561 (pc' := 564) rfl (wd hw 209 rfl) (wd hw 210 rfl) (wd hw 183 rfl) (wd hw 211 rfl) (by decide) pd26 [(.ref a), (.int (Int32.ofNat (pl + dn + 1 - 2))), (.long q), (.int (Int32.ofNat dn)), (.int (7 : Int32)), (.long (10000000 : Int64))] [] rfl rfl rfl 0 (Nat.le_of_eq rfl) (CN.pay (W := 0) A265 (m_dig l Z a0 hw a t _ (Int32.ofNat (pl + dn + 1 - 2)) (Int32.ofNat dn) (7 : Int32) q (10000000 : Int64) zc O2 P5 fm O4 rG3 h n0 A265.old F lat (by decide) (digH (A := As) (k := 7) (P := 10000000) hn hq hdn hpl hpl2 rfl (by decide) (by decide) rfl (by decide) rfl rfl)) (wd hw 211 rfl) (wd hw 183 rfl) (by decide) (by decide)) (kc := 0) (ks := 0) (by decide) (by decide) all0 (fun _ => sf0) fun v266 T266 h266 L266 A266 K266 q266 => ?_
  obtain ⟨rfl, hh266⟩ := q266
  obtain rfl := hh266.symm
  show Wp pG e below _ T266 (mkF m 564 _ [(.int (1 : Int32))])
  refine f_ifN A266 at_564 ((if0 _ _).trans (feq (by decide : ¬ (1 : Int32) = (0 : Int32))).1) (pc' := 567) rfl ?_
  refine f_aload A266 at_567 (pc' := 569) rfl rfl rfl ?_
  refine f_iload A266 at_569 (pc' := 571) rfl rfl ?_
  refine f_lload A266 at_571 (pc' := 573) rfl rfl ?_
  refine f_iload A266 at_573 (pc' := 575) rfl rfl ?_
  refine f_bipush A266 at_575 (pc' := 577) rfl 8 rfl ?_
  refine f_ldc2J A266 at_577 (pc' := 580) rfl (wd hw 220 rfl) ?_
  refine f_callS A266 at_580 (pc' := 583) rfl (wd hw 209 rfl) (wd hw 210 rfl) (wd hw 183 rfl) (wd hw 211 rfl) (by decide) pd26 [(.ref a), (.int (Int32.ofNat (pl + dn + 1 - 2))), (.long q), (.int (Int32.ofNat dn)), (.int (8 : Int32)), (.long (100000000 : Int64))] [] rfl rfl rfl 0 (Nat.le_of_eq rfl) (CN.pay (W := 0) A266 (m_dig l Z a0 hw a t _ (Int32.ofNat (pl + dn + 1 - 2)) (Int32.ofNat dn) (8 : Int32) q (100000000 : Int64) zc O2 P5 fm O4 rG3 h n0 A266.old F lat (by decide) (digH (A := As) (k := 8) (P := 100000000) hn hq hdn hpl hpl2 rfl (by decide) (by decide) rfl (by decide) rfl rfl)) (wd hw 211 rfl) (wd hw 183 rfl) (by decide) (by decide)) (kc := 0) (ks := 0) (by decide) (by decide) all0 (fun _ => sf0) fun v267 T267 h267 L267 A267 K267 q267 => ?_
  obtain ⟨rfl, hh267⟩ := q267
  obtain rfl := hh267.symm
  show Wp pG e below _ T267 (mkF m 583 _ [(.int (1 : Int32))])
  refine f_ifN A267 at_583 ((if0 _ _).trans (feq (by decide : ¬ (1 : Int32) = (0 : Int32))).1) (pc' := 586) rfl ?_
  refine f_aload A267 at_586 (pc' := 588) rfl rfl rfl ?_
  refine f_iload A267 at_588 (pc' := 590) rfl rfl ?_
  refine f_lload A267 at_590 (pc' := 592) rfl rfl ?_
  refine f_iload A267 at_592 (pc' := 594) rfl rfl ?_
  refine f_bipush A267 at_594 (pc' := 596) rfl 9 rfl ?_
  refine f_ldc2J A267 at_596 (pc' := 599) rfl (wd hw 221 rfl) ?_
  refine f_callS A267 at_599 (pc' := 602) rfl (wd hw 209 rfl) (wd hw 210 rfl) (wd hw 183 rfl) (wd hw 211 rfl) (by decide) pd26 [(.ref a), (.int (Int32.ofNat (pl + dn + 1 - 2))), (.long q), (.int (Int32.ofNat dn)), (.int (9 : Int32)), (.long (1000000000 : Int64))] [] rfl rfl rfl 0 (Nat.le_of_eq rfl) (CN.pay (W := 0) A267 (m_dig l Z a0 hw a t _ (Int32.ofNat (pl + dn + 1 - 2)) (Int32.ofNat dn) (9 : Int32) q (1000000000 : Int64) zc O2 P5 fm O4 rG3 h n0 A267.old F lat (by decide) (digH (A := As) (k := 9) (P := 1000000000) hn hq hdn hpl hpl2 rfl (by decide) (by decide) rfl (by decide) rfl rfl)) (wd hw 211 rfl) (wd hw 183 rfl) (by decide) (by decide)) (kc := 0) (ks := 0) (by decide) (by decide) all0 (fun _ => sf0) fun v268 T268 h268 L268 A268 K268 q268 => ?_
  obtain ⟨rfl, hh268⟩ := q268
  obtain rfl := hh268.symm
  show Wp pG e below _ T268 (mkF m 602 _ [(.int (1 : Int32))])
  refine f_ifN A268 at_602 ((if0 _ _).trans (feq (by decide : ¬ (1 : Int32) = (0 : Int32))).1) (pc' := 605) rfl ?_
  refine f_aload A268 at_605 (pc' := 607) rfl rfl rfl ?_
  refine f_iload A268 at_607 (pc' := 609) rfl rfl ?_
  refine f_lload A268 at_609 (pc' := 611) rfl rfl ?_
  refine f_iload A268 at_611 (pc' := 613) rfl rfl ?_
  refine f_bipush A268 at_613 (pc' := 615) rfl 10 rfl ?_
  refine f_ldc2J A268 at_615 (pc' := 618) rfl (wd hw 222 rfl) ?_
  refine f_callS A268 at_618 (pc' := 621) rfl (wd hw 209 rfl) (wd hw 210 rfl) (wd hw 183 rfl) (wd hw 211 rfl) (by decide) pd26 [(.ref a), (.int (Int32.ofNat (pl + dn + 1 - 2))), (.long q), (.int (Int32.ofNat dn)), (.int (10 : Int32)), (.long (10000000000 : Int64))] [] rfl rfl rfl 0 (Nat.le_of_eq rfl) (CN.pay (W := 0) A268 (m_dig l Z a0 hw a t _ (Int32.ofNat (pl + dn + 1 - 2)) (Int32.ofNat dn) (10 : Int32) q (10000000000 : Int64) zc O2 P5 fm O4 rG3 h n0 A268.old F lat (by decide) (digH (A := As) (k := 10) (P := 10000000000) hn hq hdn hpl hpl2 rfl (by decide) (by decide) rfl (by decide) rfl rfl)) (wd hw 211 rfl) (wd hw 183 rfl) (by decide) (by decide)) (kc := 0) (ks := 0) (by decide) (by decide) all0 (fun _ => sf0) fun v269 T269 h269 L269 A269 K269 q269 => ?_
  obtain ⟨rfl, hh269⟩ := q269
  obtain rfl := hh269.symm
  show Wp pG e below _ T269 (mkF m 621 _ [(.int (1 : Int32))])
  refine f_ifN A269 at_621 ((if0 _ _).trans (feq (by decide : ¬ (1 : Int32) = (0 : Int32))).1) (pc' := 624) rfl ?_
  refine f_aload A269 at_624 (pc' := 626) rfl rfl rfl ?_
  refine f_iload A269 at_626 (pc' := 628) rfl rfl ?_
  refine f_lload A269 at_628 (pc' := 630) rfl rfl ?_
  refine f_iload A269 at_630 (pc' := 632) rfl rfl ?_
  refine f_bipush A269 at_632 (pc' := 634) rfl 11 rfl ?_
  refine f_ldc2J A269 at_634 (pc' := 637) rfl (wd hw 223 rfl) ?_
  refine f_callS A269 at_637 (pc' := 640) rfl (wd hw 209 rfl) (wd hw 210 rfl) (wd hw 183 rfl) (wd hw 211 rfl) (by decide) pd26 [(.ref a), (.int (Int32.ofNat (pl + dn + 1 - 2))), (.long q), (.int (Int32.ofNat dn)), (.int (11 : Int32)), (.long (100000000000 : Int64))] [] rfl rfl rfl 0 (Nat.le_of_eq rfl) (CN.pay (W := 0) A269 (m_dig l Z a0 hw a t _ (Int32.ofNat (pl + dn + 1 - 2)) (Int32.ofNat dn) (11 : Int32) q (100000000000 : Int64) zc O2 P5 fm O4 rG3 h n0 A269.old F lat (by decide) (digH (A := As) (k := 11) (P := 100000000000) hn hq hdn hpl hpl2 rfl (by decide) (by decide) rfl (by decide) rfl rfl)) (wd hw 211 rfl) (wd hw 183 rfl) (by decide) (by decide)) (kc := 0) (ks := 0) (by decide) (by decide) all0 (fun _ => sf0) fun v270 T270 h270 L270 A270 K270 q270 => ?_
  obtain ⟨rfl, hh270⟩ := q270
  obtain rfl := hh270.symm
  show Wp pG e below _ T270 (mkF m 640 _ [(.int (1 : Int32))])
  refine f_ifN A270 at_640 ((if0 _ _).trans (feq (by decide : ¬ (1 : Int32) = (0 : Int32))).1) (pc' := 643) rfl ?_
  refine f_aload A270 at_643 (pc' := 645) rfl rfl rfl ?_
  refine f_iload A270 at_645 (pc' := 647) rfl rfl ?_
  refine f_lload A270 at_647 (pc' := 649) rfl rfl ?_
  refine f_iload A270 at_649 (pc' := 651) rfl rfl ?_
  refine f_bipush A270 at_651 (pc' := 653) rfl 12 rfl ?_
  refine f_ldc2J A270 at_653 (pc' := 656) rfl (wd hw 224 rfl) ?_
  refine f_callS A270 at_656 (pc' := 659) rfl (wd hw 209 rfl) (wd hw 210 rfl) (wd hw 183 rfl) (wd hw 211 rfl) (by decide) pd26 [(.ref a), (.int (Int32.ofNat (pl + dn + 1 - 2))), (.long q), (.int (Int32.ofNat dn)), (.int (12 : Int32)), (.long (1000000000000 : Int64))] [] rfl rfl rfl 0 (Nat.le_of_eq rfl) (CN.pay (W := 0) A270 (m_dig l Z a0 hw a t _ (Int32.ofNat (pl + dn + 1 - 2)) (Int32.ofNat dn) (12 : Int32) q (1000000000000 : Int64) zc O2 P5 fm O4 rG3 h n0 A270.old F lat (by decide) (digH (A := As) (k := 12) (P := 1000000000000) hn hq hdn hpl hpl2 rfl (by decide) (by decide) rfl (by decide) rfl rfl)) (wd hw 211 rfl) (wd hw 183 rfl) (by decide) (by decide)) (kc := 0) (ks := 0) (by decide) (by decide) all0 (fun _ => sf0) fun v271 T271 h271 L271 A271 K271 q271 => ?_
  obtain ⟨rfl, hh271⟩ := q271
  obtain rfl := hh271.symm
  show Wp pG e below _ T271 (mkF m 659 _ [(.int (1 : Int32))])
  refine f_ifN A271 at_659 ((if0 _ _).trans (feq (by decide : ¬ (1 : Int32) = (0 : Int32))).1) (pc' := 662) rfl ?_
  refine f_aload A271 at_662 (pc' := 664) rfl rfl rfl ?_
  refine f_iload A271 at_664 (pc' := 666) rfl rfl ?_
  refine f_lload A271 at_666 (pc' := 668) rfl rfl ?_
  refine f_iload A271 at_668 (pc' := 670) rfl rfl ?_
  refine f_bipush A271 at_670 (pc' := 672) rfl 13 rfl ?_
  refine f_ldc2J A271 at_672 (pc' := 675) rfl (wd hw 225 rfl) ?_
  refine f_callS A271 at_675 (pc' := 678) rfl (wd hw 209 rfl) (wd hw 210 rfl) (wd hw 183 rfl) (wd hw 211 rfl) (by decide) pd26 [(.ref a), (.int (Int32.ofNat (pl + dn + 1 - 2))), (.long q), (.int (Int32.ofNat dn)), (.int (13 : Int32)), (.long (10000000000000 : Int64))] [] rfl rfl rfl 0 (Nat.le_of_eq rfl) (CN.pay (W := 0) A271 (m_dig l Z a0 hw a t _ (Int32.ofNat (pl + dn + 1 - 2)) (Int32.ofNat dn) (13 : Int32) q (10000000000000 : Int64) zc O2 P5 fm O4 rG3 h n0 A271.old F lat (by decide) (digH (A := As) (k := 13) (P := 10000000000000) hn hq hdn hpl hpl2 rfl (by decide) (by decide) rfl (by decide) rfl rfl)) (wd hw 211 rfl) (wd hw 183 rfl) (by decide) (by decide)) (kc := 0) (ks := 0) (by decide) (by decide) all0 (fun _ => sf0) fun v272 T272 h272 L272 A272 K272 q272 => ?_
  obtain ⟨rfl, hh272⟩ := q272
  obtain rfl := hh272.symm
  show Wp pG e below _ T272 (mkF m 678 _ [(.int (1 : Int32))])
  refine f_ifN A272 at_678 ((if0 _ _).trans (feq (by decide : ¬ (1 : Int32) = (0 : Int32))).1) (pc' := 681) rfl ?_
  refine f_aload A272 at_681 (pc' := 683) rfl rfl rfl ?_
  refine f_iload A272 at_683 (pc' := 685) rfl rfl ?_
  refine f_lload A272 at_685 (pc' := 687) rfl rfl ?_
  refine f_iload A272 at_687 (pc' := 689) rfl rfl ?_
  refine f_bipush A272 at_689 (pc' := 691) rfl 14 rfl ?_
  refine f_ldc2J A272 at_691 (pc' := 694) rfl (wd hw 226 rfl) ?_
  refine f_callS A272 at_694 (pc' := 697) rfl (wd hw 209 rfl) (wd hw 210 rfl) (wd hw 183 rfl) (wd hw 211 rfl) (by decide) pd26 [(.ref a), (.int (Int32.ofNat (pl + dn + 1 - 2))), (.long q), (.int (Int32.ofNat dn)), (.int (14 : Int32)), (.long (100000000000000 : Int64))] [] rfl rfl rfl 0 (Nat.le_of_eq rfl) (CN.pay (W := 0) A272 (m_dig l Z a0 hw a t _ (Int32.ofNat (pl + dn + 1 - 2)) (Int32.ofNat dn) (14 : Int32) q (100000000000000 : Int64) zc O2 P5 fm O4 rG3 h n0 A272.old F lat (by decide) (digH (A := As) (k := 14) (P := 100000000000000) hn hq hdn hpl hpl2 rfl (by decide) (by decide) rfl (by decide) rfl rfl)) (wd hw 211 rfl) (wd hw 183 rfl) (by decide) (by decide)) (kc := 0) (ks := 0) (by decide) (by decide) all0 (fun _ => sf0) fun v273 T273 h273 L273 A273 K273 q273 => ?_
  obtain ⟨rfl, hh273⟩ := q273
  obtain rfl := hh273.symm
  show Wp pG e below _ T273 (mkF m 697 _ [(.int (1 : Int32))])
  refine f_ifN A273 at_697 ((if0 _ _).trans (feq (by decide : ¬ (1 : Int32) = (0 : Int32))).1) (pc' := 700) rfl ?_
  refine f_aload A273 at_700 (pc' := 702) rfl rfl rfl ?_
  refine f_iload A273 at_702 (pc' := 704) rfl rfl ?_
  refine f_lload A273 at_704 (pc' := 706) rfl rfl ?_
  refine f_iload A273 at_706 (pc' := 708) rfl rfl ?_
  refine f_bipush A273 at_708 (pc' := 710) rfl 15 rfl ?_
  refine f_ldc2J A273 at_710 (pc' := 713) rfl (wd hw 227 rfl) ?_
  refine f_callS A273 at_713 (pc' := 716) rfl (wd hw 209 rfl) (wd hw 210 rfl) (wd hw 183 rfl) (wd hw 211 rfl) (by decide) pd26 [(.ref a), (.int (Int32.ofNat (pl + dn + 1 - 2))), (.long q), (.int (Int32.ofNat dn)), (.int (15 : Int32)), (.long (1000000000000000 : Int64))] [] rfl rfl rfl 0 (Nat.le_of_eq rfl) (CN.pay (W := 0) A273 (m_dig l Z a0 hw a t _ (Int32.ofNat (pl + dn + 1 - 2)) (Int32.ofNat dn) (15 : Int32) q (1000000000000000 : Int64) zc O2 P5 fm O4 rG3 h n0 A273.old F lat (by decide) (digH (A := As) (k := 15) (P := 1000000000000000) hn hq hdn hpl hpl2 rfl (by decide) (by decide) rfl (by decide) rfl rfl)) (wd hw 211 rfl) (wd hw 183 rfl) (by decide) (by decide)) (kc := 0) (ks := 0) (by decide) (by decide) all0 (fun _ => sf0) fun v274 T274 h274 L274 A274 K274 q274 => ?_
  obtain ⟨rfl, hh274⟩ := q274
  obtain rfl := hh274.symm
  show Wp pG e below _ T274 (mkF m 716 _ [(.int (1 : Int32))])
  refine f_ifN A274 at_716 ((if0 _ _).trans (feq (by decide : ¬ (1 : Int32) = (0 : Int32))).1) (pc' := 719) rfl ?_
  refine f_aload A274 at_719 (pc' := 721) rfl rfl rfl ?_
  refine f_iload A274 at_721 (pc' := 723) rfl rfl ?_
  refine f_lload A274 at_723 (pc' := 725) rfl rfl ?_
  refine f_iload A274 at_725 (pc' := 727) rfl rfl ?_
  refine f_bipush A274 at_727 (pc' := 729) rfl 16 rfl ?_
  refine f_ldc2J A274 at_729 (pc' := 732) rfl (wd hw 228 rfl) ?_
  refine f_callS A274 at_732 (pc' := 735) rfl (wd hw 209 rfl) (wd hw 210 rfl) (wd hw 183 rfl) (wd hw 211 rfl) (by decide) pd26 [(.ref a), (.int (Int32.ofNat (pl + dn + 1 - 2))), (.long q), (.int (Int32.ofNat dn)), (.int (16 : Int32)), (.long (10000000000000000 : Int64))] [] rfl rfl rfl 0 (Nat.le_of_eq rfl) (CN.pay (W := 0) A274 (m_dig l Z a0 hw a t _ (Int32.ofNat (pl + dn + 1 - 2)) (Int32.ofNat dn) (16 : Int32) q (10000000000000000 : Int64) zc O2 P5 fm O4 rG3 h n0 A274.old F lat (by decide) (digH (A := As) (k := 16) (P := 10000000000000000) hn hq hdn hpl hpl2 rfl (by decide) (by decide) rfl (by decide) rfl rfl)) (wd hw 211 rfl) (wd hw 183 rfl) (by decide) (by decide)) (kc := 0) (ks := 0) (by decide) (by decide) all0 (fun _ => sf0) fun v275 T275 h275 L275 A275 K275 q275 => ?_
  obtain ⟨rfl, hh275⟩ := q275
  obtain rfl := hh275.symm
  show Wp pG e below _ T275 (mkF m 735 _ [(.int (1 : Int32))])
  refine f_ifN A275 at_735 ((if0 _ _).trans (feq (by decide : ¬ (1 : Int32) = (0 : Int32))).1) (pc' := 738) rfl ?_
  refine f_aload A275 at_738 (pc' := 740) rfl rfl rfl ?_
  refine f_iload A275 at_740 (pc' := 742) rfl rfl ?_
  refine f_lload A275 at_742 (pc' := 744) rfl rfl ?_
  refine f_iload A275 at_744 (pc' := 746) rfl rfl ?_
  refine f_bipush A275 at_746 (pc' := 748) rfl 17 rfl ?_
  refine f_ldc2J A275 at_748 (pc' := 751) rfl (wd hw 229 rfl) ?_
  refine f_callS A275 at_751 (pc' := 754) rfl (wd hw 209 rfl) (wd hw 210 rfl) (wd hw 183 rfl) (wd hw 211 rfl) (by decide) pd26 [(.ref a), (.int (Int32.ofNat (pl + dn + 1 - 2))), (.long q), (.int (Int32.ofNat dn)), (.int (17 : Int32)), (.long (100000000000000000 : Int64))] [] rfl rfl rfl 0 (Nat.le_of_eq rfl) (CN.pay (W := 0) A275 (m_dig l Z a0 hw a t _ (Int32.ofNat (pl + dn + 1 - 2)) (Int32.ofNat dn) (17 : Int32) q (100000000000000000 : Int64) zc O2 P5 fm O4 rG3 h n0 A275.old F lat (by decide) (digH (A := As) (k := 17) (P := 100000000000000000) hn hq hdn hpl hpl2 rfl (by decide) (by decide) rfl (by decide) rfl rfl)) (wd hw 211 rfl) (wd hw 183 rfl) (by decide) (by decide)) (kc := 0) (ks := 0) (by decide) (by decide) all0 (fun _ => sf0) fun v276 T276 h276 L276 A276 K276 q276 => ?_
  obtain ⟨rfl, hh276⟩ := q276
  obtain rfl := hh276.symm
  show Wp pG e below _ T276 (mkF m 754 _ [(.int (1 : Int32))])
  refine f_ifN A276 at_754 ((if0 _ _).trans (feq (by decide : ¬ (1 : Int32) = (0 : Int32))).1) (pc' := 757) rfl ?_
  refine f_aload A276 at_757 (pc' := 759) rfl rfl rfl ?_
  refine f_iload A276 at_759 (pc' := 761) rfl rfl ?_
  refine f_lload A276 at_761 (pc' := 763) rfl rfl ?_
  refine f_iload A276 at_763 (pc' := 765) rfl rfl ?_
  refine f_bipush A276 at_765 (pc' := 767) rfl 18 rfl ?_
  refine f_ldc2J A276 at_767 (pc' := 770) rfl (wd hw 230 rfl) ?_
  refine f_callS A276 at_770 (pc' := 773) rfl (wd hw 209 rfl) (wd hw 210 rfl) (wd hw 183 rfl) (wd hw 211 rfl) (by decide) pd26 [(.ref a), (.int (Int32.ofNat (pl + dn + 1 - 2))), (.long q), (.int (Int32.ofNat dn)), (.int (18 : Int32)), (.long (1000000000000000000 : Int64))] [] rfl rfl rfl 0 (Nat.le_of_eq rfl) (CN.pay (W := 0) A276 (m_dig l Z a0 hw a t _ (Int32.ofNat (pl + dn + 1 - 2)) (Int32.ofNat dn) (18 : Int32) q (1000000000000000000 : Int64) zc O2 P5 fm O4 rG3 h n0 A276.old F lat (by decide) (digH (A := As) (k := 18) (P := 1000000000000000000) hn hq hdn hpl hpl2 rfl (by decide) (by decide) rfl (by decide) rfl rfl)) (wd hw 211 rfl) (wd hw 183 rfl) (by decide) (by decide)) (kc := 0) (ks := 0) (by decide) (by decide) all0 (fun _ => sf0) fun v277 T277 h277 L277 A277 K277 q277 => ?_
  obtain ⟨rfl, hh277⟩ := q277
  obtain rfl := hh277.symm
  show Wp pG e below _ T277 (mkF m 773 _ [(.int (1 : Int32))])
  refine f_ifN A277 at_773 ((if0 _ _).trans (feq (by decide : ¬ (1 : Int32) = (0 : Int32))).1) (pc' := 776) rfl ?_
  refine f_iconst A277 at_776 (pc' := 777) rfl 1 rfl ?_
  refine f_goto A277 at_777 (pc' := 781) (by decide) (by decide) ?_
  exact f_retBW A277 hEL hlk hret at_781 (by decide) (1 : Int32) (by decide) (by decide) (by decide) Kh rfl
set_option maxRecDepth 65536 in
set_option maxHeartbeats 40000000 in
theorem m_tl0n (l : Launch) (Z : State) (a0 : Array Value) (hw : ∀ d ∈ tables_1, d.before a0 Z = true) (tk : Int64) (i1 i2 i3 ls : Int32) (c0 c1 c2 : Int32) (y a t : Addr) (n dn : Nat) (zc : Int32) (O2 : Sta Z Z.heap "java/lang/String" "COMPACT_STRINGS" "Z" (.int zc)) (P5 : ¬ zc = 0) (fm : Value) (O4 : Sta Z Z.heap "jdk/internal/util/Preconditions" "SIOOBE_FORMATTER" "Ljava/util/function/BiFunction;" fm) (rG3 : fm.isRef = true) (h0 : Heap) (n0 : Nat) (hEL : EW Z a0 ELs) {pG : Program} {e : Env} {s : State} {m : MethodId} {below : List Frame} {meth : Method} {cO : Code} (hlk : meth.locks = false) (hret : meth.sig.returnType = ret) (vm : Vm) (T : State) (h : Heap) (locs : List Loc) (A : WS pG l e room_1 s m #[(.long tk), (.int i1), (.int i2), (.int i3), (.int ls)] below meth cO Z ELs n0 x.cls code maxLocals true vm T h locs 32 3392) (Kh : Keep h0 h []) (G0 : Str Z h a t ([] ++ [(32 : Int32), (40 : Int32), (116 : Int32), (111 : Int32), (107 : Int32), (101 : Int32), (110 : Int32), (32 : Int32)] ++ ldL tk n ++ [(41 : Int32)])) (r0 : ¬ c0 < 0 ∧ ¬ (255 : Int32) < c0) (r1 : ¬ c1 < 0 ∧ ¬ (255 : Int32) < c1) (r2 : ¬ c2 < 0 ∧ ¬ (255 : Int32) < c2) (hn : n ≤ 2 ^ 63) (hx : (if tk < 0 then tk else -tk) = Jvm.Free.SBG.negL n) (hdn : Jvm.Free.SBG.digitsL n = dn) (hdn0 : 1 ≤ dn) (hdn20 : dn ≤ 20) (hneg : tk < 0) :
    Wp pG e below (PW s Z ELs n0 h0 [] (fun v h => v = some (.int 1)) room_1.cells room_1.slots) T (mkF m 150 #[.val (.long tk), .second, .val (.int i1), .val (.int i2), .val (.int i3), .val (.int ls), .val (.int c0), .val (.int c1), .val (.int c2), .val (.int (0 : Int32)), .val (.ref y), .val (.ref a), .unset, .unset, .unset, .unset, .unset] []) := by
  have G : Str Z h a t ((32 : Int32) :: (40 : Int32) :: (116 : Int32) :: (111 : Int32) :: (107 : Int32) :: (101 : Int32) :: (110 : Int32) :: (32 : Int32) :: (45 : Int32) :: (dlist n dn ++ [(41 : Int32)])) := by
    rw [ldL, if_pos hneg, hdn] at G0; exact G0
  have hL : ((32 : Int32) :: (40 : Int32) :: (116 : Int32) :: (111 : Int32) :: (107 : Int32) :: (101 : Int32) :: (110 : Int32) :: (32 : Int32) :: (45 : Int32) :: (dlist n dn ++ [(41 : Int32)])).length = 10 + dn := by
    show ([(32 : Int32), (40 : Int32), (116 : Int32), (111 : Int32), (107 : Int32), (101 : Int32), (110 : Int32), (32 : Int32), (45 : Int32)] ++ (dlist n dn ++ [(41 : Int32)])).length = _
    rw [List.length_append, List.length_append, dlist_len]; show 9 + (dn + 1) = _; omega
  have hlast : ((32 : Int32) :: (40 : Int32) :: (116 : Int32) :: (111 : Int32) :: (107 : Int32) :: (101 : Int32) :: (110 : Int32) :: (32 : Int32) :: (45 : Int32) :: (dlist n dn ++ [(41 : Int32)])).getD (9 + dn) 0 = 41 := getD_last (A := [(32 : Int32), (40 : Int32), (116 : Int32), (111 : Int32), (107 : Int32), (101 : Int32), (110 : Int32), (32 : Int32), (45 : Int32)]) (D := dlist n dn) (by rw [dlist_len]; rfl)
  have hq : tk = Jvm.Free.SBG.negL n := by rw [if_pos hneg] at hx; exact hx
  have latS : ∀ c ∈ ((32 : Int32) :: (40 : Int32) :: (116 : Int32) :: (111 : Int32) :: (107 : Int32) :: (101 : Int32) :: (110 : Int32) :: (32 : Int32) :: (45 : Int32) :: (dlist n dn ++ [(41 : Int32)])), ¬ (255 : Int32) < c := lat2 (lc (by decide) (lc (by decide) (lc (by decide) (lc (by decide) (lc (by decide) (lc (by decide) (lc (by decide) (lc (by decide) (lc (by decide) (la dlist_rng (lc (by decide) ln)))))))))))
  have hlt : lcmpW tk 0 < 0 := (lw_lt _ _).mpr hneg
  refine f_lloadN A at_150 (pc' := 151) rfl rfl ?_
  refine f_lconst A at_151 (pc' := 152) rfl 0 rfl ?_
  refine f_lcmp A at_152 (pc' := 153) rfl (lcmpW tk (0 : Int64)) rfl ?_
  refine f_ifN A at_153 ((if0 _ _).trans (tlt hlt).2.1) (pc' := 156) rfl ?_
  refine f_iconst A at_156 (pc' := 157) rfl 1 rfl ?_
  refine f_goto A at_157 (pc' := 161) (by decide) (by decide) ?_
  refine f_istore A at_161 (pc' := 163) rfl (L' := #[.val (.long tk), .second, .val (.int i1), .val (.int i2), .val (.int i3), .val (.int ls), .val (.int c0), .val (.int c1), .val (.int c2), .val (.int (0 : Int32)), .val (.ref y), .val (.ref a), .val (.int (1 : Int32)), .unset, .unset, .unset, .unset]) rfl ?_
  refine f_lloadN A at_163 (pc' := 164) rfl rfl ?_
  refine f_lconst A at_164 (pc' := 165) rfl 0 rfl ?_
  refine f_lcmp A at_165 (pc' := 166) rfl (lcmpW tk (0 : Int64)) rfl ?_
  refine f_ifN A at_166 ((if0 _ _).trans (tlt hlt).2.1) (pc' := 169) rfl ?_
  refine f_lloadN A at_169 (pc' := 170) rfl rfl ?_
  refine f_goto A at_170 (pc' := 175) (by decide) (by decide) ?_
  refine f_lstore A at_175 (pc' := 177) rfl (L' := #[.val (.long tk), .second, .val (.int i1), .val (.int i2), .val (.int i3), .val (.int ls), .val (.int c0), .val (.int c1), .val (.int c2), .val (.int (0 : Int32)), .val (.ref y), .val (.ref a), .val (.int (1 : Int32)), .val (.long tk), .second, .unset, .unset]) rfl ?_
  refine f_lload A at_177 (pc' := 179) rfl rfl ?_
  refine f_callS A at_179 (pc' := 182) rfl (wd hw 181 rfl) (wd hw 182 rfl) (wd hw 183 rfl) (wd hw 184 rfl) (by decide) pd18 [(.long tk)] [] rfl rfl rfl 0 (Nat.le_of_eq rfl) (CN.pay (W := 0) A (m_dgs l Z a0 hw tk n h n0 A.old hn hq) (wd hw 184 rfl) (wd hw 183 rfl) (by decide) (by decide)) (kc := 0) (ks := 0) (by decide) (by decide) all0 (fun _ => sf0) fun v278 T278 h278 L278 A278 K278 q278 => ?_
  obtain ⟨rfl, hh278⟩ := q278
  obtain rfl := hh278.symm
  rw [hdn]
  show Wp pG e below _ T278 (mkF m 182 _ [(.int (Int32.ofNat dn))])
  refine f_istore A278 at_182 (pc' := 184) rfl (L' := #[.val (.long tk), .second, .val (.int i1), .val (.int i2), .val (.int i3), .val (.int ls), .val (.int c0), .val (.int c1), .val (.int c2), .val (.int (0 : Int32)), .val (.ref y), .val (.ref a), .val (.int (1 : Int32)), .val (.long tk), .second, .val (.int (Int32.ofNat dn)), .unset]) rfl ?_
  refine f_aload A278 at_184 (pc' := 186) rfl rfl rfl ?_
  refine f_callV A278 (a := a) at_186 (pc' := 189) rfl (wd hw 186 rfl) (wd hw 75 rfl) (nfS A278 (wd hw 77 rfl)) (wd hw 77 rfl) (wd hw 76 rfl) (by decide) G.exa pd5 [] [] rfl rfl rfl 0 (Nat.le_of_eq rfl) (payLen (W := 0) A278 hw (wd hw 1 rfl) G O2 P5 (by decide) (by decide)) (kc := 0) (ks := 0) (by decide) (by decide) all0 (fun _ => sf0) fun v279 T279 h279 L279 A279 K279 q279 => ?_
  obtain ⟨rfl, hh279⟩ := q279
  obtain rfl := hh279.symm
  show Wp pG e below _ T279 (mkF m 189 _ [(.int (Int32.ofNat ((32 : Int32) :: (40 : Int32) :: (116 : Int32) :: (111 : Int32) :: (107 : Int32) :: (101 : Int32) :: (110 : Int32) :: (32 : Int32) :: (45 : Int32) :: (dlist n dn ++ [(41 : Int32)])).length))])
  refine f_iload A279 at_189 (pc' := 191) rfl rfl ?_
  refine f_bipush A279 at_191 (pc' := 193) rfl 9 rfl ?_
  refine f_iadd A279 at_193 (pc' := 194) rfl (9 : Int32) (by decide) ?_
  refine f_iload A279 at_194 (pc' := 196) rfl rfl ?_
  refine f_iadd A279 at_196 (pc' := 197) rfl (10 : Int32) (by decide) ?_
  refine f_iload A279 at_197 (pc' := 199) rfl rfl ?_
  refine f_iadd A279 at_199 (pc' := 200) rfl ((10 : Int32) + (Int32.ofNat dn)) rfl ?_
  refine f_icY A279 at_200 (teq (by rw [hL]; exact (ofn_add (i := 10) (n := dn) (by omega)).symm)).1 (pc' := 205) (by decide) (by decide) ?_
  refine f_iload A279 at_205 (pc' := 207) rfl rfl ?_
  refine f_ifY A279 at_207 ((if0 _ _).trans (flt (by decide : ¬ (0 : Int32) < (0 : Int32))).2.2.2) (pc' := 223) (by decide) (by decide) ?_
  refine f_iload A279 at_223 (pc' := 225) rfl rfl ?_
  refine f_iconst A279 at_225 (pc' := 226) rfl 1 rfl ?_
  refine f_icY A279 at_226 (flt (by decide : ¬ (1 : Int32) < (0 : Int32))).2.2.2 (pc' := 242) (by decide) (by decide) ?_
  refine f_iload A279 at_242 (pc' := 244) rfl rfl ?_
  refine f_iconst A279 at_244 (pc' := 245) rfl 2 rfl ?_
  refine f_icY A279 at_245 (flt (by decide : ¬ (2 : Int32) < (0 : Int32))).2.2.2 (pc' := 261) (by decide) (by decide) ?_
  refine f_aload A279 at_261 (pc' := 263) rfl rfl rfl ?_
  refine f_iload A279 at_263 (pc' := 265) rfl rfl ?_
  refine f_callV A279 (a := a) at_265 (pc' := 268) rfl (wd hw 187 rfl) (wd hw 188 rfl) (nfS A279 (wd hw 190 rfl)) (wd hw 190 rfl) (wd hw 189 rfl) (by decide) G.exa pd25 [(.int (0 : Int32))] [] rfl rfl rfl 0 (Nat.le_of_eq rfl) (payCh (W := 0) A279 hw (wd hw 1 rfl) G latS O2 P5 O4 rG3 0 (by rw [hL]; omega) rfl (by decide) (by decide)) (kc := 0) (ks := 0) (by decide) (by decide) all0 (fun _ => sf0) fun v280 T280 h280 L280 A280 K280 q280 => ?_
  obtain ⟨rfl, hh280⟩ := q280
  obtain rfl := hh280.symm
  show Wp pG e below _ T280 (mkF m 268 _ [(.int (32 : Int32))])
  refine f_bipush A280 at_268 (pc' := 270) rfl 32 rfl ?_
  refine f_icN A280 at_270 (teq (by decide : (32 : Int32) = (32 : Int32))).2 (pc' := 273) rfl ?_
  refine f_aload A280 at_273 (pc' := 275) rfl rfl rfl ?_
  refine f_iload A280 at_275 (pc' := 277) rfl rfl ?_
  refine f_iconst A280 at_277 (pc' := 278) rfl 1 rfl ?_
  refine f_iadd A280 at_278 (pc' := 279) rfl (1 : Int32) (by decide) ?_
  refine f_callV A280 (a := a) at_279 (pc' := 282) rfl (wd hw 187 rfl) (wd hw 188 rfl) (nfS A280 (wd hw 190 rfl)) (wd hw 190 rfl) (wd hw 189 rfl) (by decide) G.exa pd25 [(.int (1 : Int32))] [] rfl rfl rfl 0 (Nat.le_of_eq rfl) (payCh (W := 0) A280 hw (wd hw 1 rfl) G latS O2 P5 O4 rG3 1 (by rw [hL]; omega) rfl (by decide) (by decide)) (kc := 0) (ks := 0) (by decide) (by decide) all0 (fun _ => sf0) fun v281 T281 h281 L281 A281 K281 q281 => ?_
  obtain ⟨rfl, hh281⟩ := q281
  obtain rfl := hh281.symm
  show Wp pG e below _ T281 (mkF m 282 _ [(.int (40 : Int32))])
  refine f_bipush A281 at_282 (pc' := 284) rfl 40 rfl ?_
  refine f_icN A281 at_284 (teq (by decide : (40 : Int32) = (40 : Int32))).2 (pc' := 287) rfl ?_
  refine f_aload A281 at_287 (pc' := 289) rfl rfl rfl ?_
  refine f_iload A281 at_289 (pc' := 291) rfl rfl ?_
  refine f_iconst A281 at_291 (pc' := 292) rfl 2 rfl ?_
  refine f_iadd A281 at_292 (pc' := 293) rfl (2 : Int32) (by decide) ?_
  refine f_callV A281 (a := a) at_293 (pc' := 296) rfl (wd hw 187 rfl) (wd hw 188 rfl) (nfS A281 (wd hw 190 rfl)) (wd hw 190 rfl) (wd hw 189 rfl) (by decide) G.exa pd25 [(.int (2 : Int32))] [] rfl rfl rfl 0 (Nat.le_of_eq rfl) (payCh (W := 0) A281 hw (wd hw 1 rfl) G latS O2 P5 O4 rG3 2 (by rw [hL]; omega) rfl (by decide) (by decide)) (kc := 0) (ks := 0) (by decide) (by decide) all0 (fun _ => sf0) fun v282 T282 h282 L282 A282 K282 q282 => ?_
  obtain ⟨rfl, hh282⟩ := q282
  obtain rfl := hh282.symm
  show Wp pG e below _ T282 (mkF m 296 _ [(.int (116 : Int32))])
  refine f_bipush A282 at_296 (pc' := 298) rfl 116 rfl ?_
  refine f_icN A282 at_298 (teq (by decide : (116 : Int32) = (116 : Int32))).2 (pc' := 301) rfl ?_
  refine f_aload A282 at_301 (pc' := 303) rfl rfl rfl ?_
  refine f_iload A282 at_303 (pc' := 305) rfl rfl ?_
  refine f_iconst A282 at_305 (pc' := 306) rfl 3 rfl ?_
  refine f_iadd A282 at_306 (pc' := 307) rfl (3 : Int32) (by decide) ?_
  refine f_callV A282 (a := a) at_307 (pc' := 310) rfl (wd hw 187 rfl) (wd hw 188 rfl) (nfS A282 (wd hw 190 rfl)) (wd hw 190 rfl) (wd hw 189 rfl) (by decide) G.exa pd25 [(.int (3 : Int32))] [] rfl rfl rfl 0 (Nat.le_of_eq rfl) (payCh (W := 0) A282 hw (wd hw 1 rfl) G latS O2 P5 O4 rG3 3 (by rw [hL]; omega) rfl (by decide) (by decide)) (kc := 0) (ks := 0) (by decide) (by decide) all0 (fun _ => sf0) fun v283 T283 h283 L283 A283 K283 q283 => ?_
  obtain ⟨rfl, hh283⟩ := q283
  obtain rfl := hh283.symm
  show Wp pG e below _ T283 (mkF m 310 _ [(.int (111 : Int32))])
  refine f_bipush A283 at_310 (pc' := 312) rfl 111 rfl ?_
  refine f_icN A283 at_312 (teq (by decide : (111 : Int32) = (111 : Int32))).2 (pc' := 315) rfl ?_
  refine f_aload A283 at_315 (pc' := 317) rfl rfl rfl ?_
  refine f_iload A283 at_317 (pc' := 319) rfl rfl ?_
  refine f_iconst A283 at_319 (pc' := 320) rfl 4 rfl ?_
  refine f_iadd A283 at_320 (pc' := 321) rfl (4 : Int32) (by decide) ?_
  refine f_callV A283 (a := a) at_321 (pc' := 324) rfl (wd hw 187 rfl) (wd hw 188 rfl) (nfS A283 (wd hw 190 rfl)) (wd hw 190 rfl) (wd hw 189 rfl) (by decide) G.exa pd25 [(.int (4 : Int32))] [] rfl rfl rfl 0 (Nat.le_of_eq rfl) (payCh (W := 0) A283 hw (wd hw 1 rfl) G latS O2 P5 O4 rG3 4 (by rw [hL]; omega) rfl (by decide) (by decide)) (kc := 0) (ks := 0) (by decide) (by decide) all0 (fun _ => sf0) fun v284 T284 h284 L284 A284 K284 q284 => ?_
  obtain ⟨rfl, hh284⟩ := q284
  obtain rfl := hh284.symm
  show Wp pG e below _ T284 (mkF m 324 _ [(.int (107 : Int32))])
  refine f_bipush A284 at_324 (pc' := 326) rfl 107 rfl ?_
  refine f_icN A284 at_326 (teq (by decide : (107 : Int32) = (107 : Int32))).2 (pc' := 329) rfl ?_
  refine f_aload A284 at_329 (pc' := 331) rfl rfl rfl ?_
  refine f_iload A284 at_331 (pc' := 333) rfl rfl ?_
  refine f_iconst A284 at_333 (pc' := 334) rfl 5 rfl ?_
  refine f_iadd A284 at_334 (pc' := 335) rfl (5 : Int32) (by decide) ?_
  refine f_callV A284 (a := a) at_335 (pc' := 338) rfl (wd hw 187 rfl) (wd hw 188 rfl) (nfS A284 (wd hw 190 rfl)) (wd hw 190 rfl) (wd hw 189 rfl) (by decide) G.exa pd25 [(.int (5 : Int32))] [] rfl rfl rfl 0 (Nat.le_of_eq rfl) (payCh (W := 0) A284 hw (wd hw 1 rfl) G latS O2 P5 O4 rG3 5 (by rw [hL]; omega) rfl (by decide) (by decide)) (kc := 0) (ks := 0) (by decide) (by decide) all0 (fun _ => sf0) fun v285 T285 h285 L285 A285 K285 q285 => ?_
  obtain ⟨rfl, hh285⟩ := q285
  obtain rfl := hh285.symm
  show Wp pG e below _ T285 (mkF m 338 _ [(.int (101 : Int32))])
  refine f_bipush A285 at_338 (pc' := 340) rfl 101 rfl ?_
  refine f_icN A285 at_340 (teq (by decide : (101 : Int32) = (101 : Int32))).2 (pc' := 343) rfl ?_
  refine f_aload A285 at_343 (pc' := 345) rfl rfl rfl ?_
  refine f_iload A285 at_345 (pc' := 347) rfl rfl ?_
  refine f_bipush A285 at_347 (pc' := 349) rfl 6 rfl ?_
  refine f_iadd A285 at_349 (pc' := 350) rfl (6 : Int32) (by decide) ?_
  refine f_callV A285 (a := a) at_350 (pc' := 353) rfl (wd hw 187 rfl) (wd hw 188 rfl) (nfS A285 (wd hw 190 rfl)) (wd hw 190 rfl) (wd hw 189 rfl) (by decide) G.exa pd25 [(.int (6 : Int32))] [] rfl rfl rfl 0 (Nat.le_of_eq rfl) (payCh (W := 0) A285 hw (wd hw 1 rfl) G latS O2 P5 O4 rG3 6 (by rw [hL]; omega) rfl (by decide) (by decide)) (kc := 0) (ks := 0) (by decide) (by decide) all0 (fun _ => sf0) fun v286 T286 h286 L286 A286 K286 q286 => ?_
  obtain ⟨rfl, hh286⟩ := q286
  obtain rfl := hh286.symm
  show Wp pG e below _ T286 (mkF m 353 _ [(.int (110 : Int32))])
  refine f_bipush A286 at_353 (pc' := 355) rfl 110 rfl ?_
  refine f_icN A286 at_355 (teq (by decide : (110 : Int32) = (110 : Int32))).2 (pc' := 358) rfl ?_
  refine f_aload A286 at_358 (pc' := 360) rfl rfl rfl ?_
  refine f_iload A286 at_360 (pc' := 362) rfl rfl ?_
  refine f_bipush A286 at_362 (pc' := 364) rfl 7 rfl ?_
  refine f_iadd A286 at_364 (pc' := 365) rfl (7 : Int32) (by decide) ?_
  refine f_callV A286 (a := a) at_365 (pc' := 368) rfl (wd hw 187 rfl) (wd hw 188 rfl) (nfS A286 (wd hw 190 rfl)) (wd hw 190 rfl) (wd hw 189 rfl) (by decide) G.exa pd25 [(.int (7 : Int32))] [] rfl rfl rfl 0 (Nat.le_of_eq rfl) (payCh (W := 0) A286 hw (wd hw 1 rfl) G latS O2 P5 O4 rG3 7 (by rw [hL]; omega) rfl (by decide) (by decide)) (kc := 0) (ks := 0) (by decide) (by decide) all0 (fun _ => sf0) fun v287 T287 h287 L287 A287 K287 q287 => ?_
  obtain ⟨rfl, hh287⟩ := q287
  obtain rfl := hh287.symm
  show Wp pG e below _ T287 (mkF m 368 _ [(.int (32 : Int32))])
  refine f_bipush A287 at_368 (pc' := 370) rfl 32 rfl ?_
  refine f_icY A287 at_370 (teq (by decide : (32 : Int32) = (32 : Int32))).1 (pc' := 375) (by decide) (by decide) ?_
  refine f_iload A287 at_375 (pc' := 377) rfl rfl ?_
  refine f_iconst A287 at_377 (pc' := 378) rfl 1 rfl ?_
  refine f_icN A287 at_378 (teq (by decide : (1 : Int32) = (1 : Int32))).2 (pc' := 381) rfl ?_
  refine f_aload A287 at_381 (pc' := 383) rfl rfl rfl ?_
  refine f_iload A287 at_383 (pc' := 385) rfl rfl ?_
  refine f_bipush A287 at_385 (pc' := 387) rfl 8 rfl ?_
  refine f_iadd A287 at_387 (pc' := 388) rfl (8 : Int32) (by decide) ?_
  refine f_callV A287 (a := a) at_388 (pc' := 391) rfl (wd hw 187 rfl) (wd hw 188 rfl) (nfS A287 (wd hw 190 rfl)) (wd hw 190 rfl) (wd hw 189 rfl) (by decide) G.exa pd25 [(.int (8 : Int32))] [] rfl rfl rfl 0 (Nat.le_of_eq rfl) (payCh (W := 0) A287 hw (wd hw 1 rfl) G latS O2 P5 O4 rG3 8 (by rw [hL]; omega) rfl (by decide) (by decide)) (kc := 0) (ks := 0) (by decide) (by decide) all0 (fun _ => sf0) fun v288 T288 h288 L288 A288 K288 q288 => ?_
  obtain ⟨rfl, hh288⟩ := q288
  obtain rfl := hh288.symm
  show Wp pG e below _ T288 (mkF m 391 _ [(.int (45 : Int32))])
  refine f_bipush A288 at_391 (pc' := 393) rfl 45 rfl ?_
  refine f_icY A288 at_393 (teq (by decide : (45 : Int32) = (45 : Int32))).1 (pc' := 398) (by decide) (by decide) ?_
  refine f_aload A288 at_398 (pc' := 400) rfl rfl rfl ?_
  refine f_callV A288 (a := a) at_400 (pc' := 403) rfl (wd hw 186 rfl) (wd hw 75 rfl) (nfS A288 (wd hw 77 rfl)) (wd hw 77 rfl) (wd hw 76 rfl) (by decide) G.exa pd5 [] [] rfl rfl rfl 0 (Nat.le_of_eq rfl) (payLen (W := 0) A288 hw (wd hw 1 rfl) G O2 P5 (by decide) (by decide)) (kc := 0) (ks := 0) (by decide) (by decide) all0 (fun _ => sf0) fun v289 T289 h289 L289 A289 K289 q289 => ?_
  obtain ⟨rfl, hh289⟩ := q289
  obtain rfl := hh289.symm
  show Wp pG e below _ T289 (mkF m 403 _ [(.int (Int32.ofNat ((32 : Int32) :: (40 : Int32) :: (116 : Int32) :: (111 : Int32) :: (107 : Int32) :: (101 : Int32) :: (110 : Int32) :: (32 : Int32) :: (45 : Int32) :: (dlist n dn ++ [(41 : Int32)])).length))])
  refine f_iconst A289 at_403 (pc' := 404) rfl 2 rfl ?_
  refine f_isub A289 at_404 (pc' := 405) rfl (Int32.ofNat (9 + dn + 1 - 2)) (by rw [hL, show 10 + dn = 9 + dn + 1 by omega]; exact ofn_sub (n := 2) (by omega) (by omega)) ?_
  refine f_istore A289 at_405 (pc' := 407) rfl (L' := #[.val (.long tk), .second, .val (.int i1), .val (.int i2), .val (.int i3), .val (.int ls), .val (.int c0), .val (.int c1), .val (.int c2), .val (.int (0 : Int32)), .val (.ref y), .val (.ref a), .val (.int (1 : Int32)), .val (.long tk), .second, .val (.int (Int32.ofNat dn)), .val (.int (Int32.ofNat (9 + dn + 1 - 2)))]) rfl ?_
  refine f_aload A289 at_407 (pc' := 409) rfl rfl rfl ?_
  refine f_iload A289 at_409 (pc' := 411) rfl rfl ?_
  refine f_iconst A289 at_411 (pc' := 412) rfl 1 rfl ?_
  refine f_iadd A289 at_412 (pc' := 413) rfl (Int32.ofNat (9 + dn)) (by rw [ofn_one (by omega), show 9 + dn + 1 - 2 + 1 = 9 + dn by omega]) ?_
  refine f_callV A289 (a := a) at_413 (pc' := 416) rfl (wd hw 187 rfl) (wd hw 188 rfl) (nfS A289 (wd hw 190 rfl)) (wd hw 190 rfl) (wd hw 189 rfl) (by decide) G.exa pd25 [(.int (Int32.ofNat (9 + dn)))] [] rfl rfl rfl 0 (Nat.le_of_eq rfl) (payCh (W := 0) A289 hw (wd hw 1 rfl) G latS O2 P5 O4 rG3 (9 + dn) (by rw [hL]; omega) rfl (by decide) (by decide)) (kc := 0) (ks := 0) (by decide) (by decide) all0 (fun _ => sf0) fun v290 T290 h290 L290 A290 K290 q290 => ?_
  obtain ⟨e290, hh290⟩ := q290
  obtain rfl := hh290.symm
  rw [hlast] at e290
  subst e290
  show Wp pG e below _ T290 (mkF m 416 _ [(.int (41 : Int32))])
  refine f_bipush A290 at_416 (pc' := 418) rfl 41 rfl ?_
  refine f_icY A290 at_418 (teq (by decide : (41 : Int32) = (41 : Int32))).1 (pc' := 423) (by decide) (by decide) ?_
  exact m_dgt l Z a0 hw tk i1 i2 i3 ls c0 c1 c2 _ _ y a t tk n dn 9 [(32 : Int32), (40 : Int32), (116 : Int32), (111 : Int32), (107 : Int32), (101 : Int32), (110 : Int32), (32 : Int32), (45 : Int32)] zc O2 P5 fm O4 rG3 h0 n0 hEL hlk hret _ _ _ _ A290 Kh G latS hn hq hdn20 rfl (by decide)
set_option maxRecDepth 65536 in
set_option maxHeartbeats 40000000 in
theorem m_tl0p (l : Launch) (Z : State) (a0 : Array Value) (hw : ∀ d ∈ tables_1, d.before a0 Z = true) (tk : Int64) (i1 i2 i3 ls : Int32) (c0 c1 c2 : Int32) (y a t : Addr) (n dn : Nat) (zc : Int32) (O2 : Sta Z Z.heap "java/lang/String" "COMPACT_STRINGS" "Z" (.int zc)) (P5 : ¬ zc = 0) (fm : Value) (O4 : Sta Z Z.heap "jdk/internal/util/Preconditions" "SIOOBE_FORMATTER" "Ljava/util/function/BiFunction;" fm) (rG3 : fm.isRef = true) (h0 : Heap) (n0 : Nat) (hEL : EW Z a0 ELs) {pG : Program} {e : Env} {s : State} {m : MethodId} {below : List Frame} {meth : Method} {cO : Code} (hlk : meth.locks = false) (hret : meth.sig.returnType = ret) (vm : Vm) (T : State) (h : Heap) (locs : List Loc) (A : WS pG l e room_1 s m #[(.long tk), (.int i1), (.int i2), (.int i3), (.int ls)] below meth cO Z ELs n0 x.cls code maxLocals true vm T h locs 32 3392) (Kh : Keep h0 h []) (G0 : Str Z h a t ([] ++ [(32 : Int32), (40 : Int32), (116 : Int32), (111 : Int32), (107 : Int32), (101 : Int32), (110 : Int32), (32 : Int32)] ++ ldL tk n ++ [(41 : Int32)])) (r0 : ¬ c0 < 0 ∧ ¬ (255 : Int32) < c0) (r1 : ¬ c1 < 0 ∧ ¬ (255 : Int32) < c1) (r2 : ¬ c2 < 0 ∧ ¬ (255 : Int32) < c2) (hn : n ≤ 2 ^ 63) (hx : (if tk < 0 then tk else -tk) = Jvm.Free.SBG.negL n) (hdn : Jvm.Free.SBG.digitsL n = dn) (hdn0 : 1 ≤ dn) (hdn20 : dn ≤ 20) (hneg : ¬ tk < 0) :
    Wp pG e below (PW s Z ELs n0 h0 [] (fun v h => v = some (.int 1)) room_1.cells room_1.slots) T (mkF m 150 #[.val (.long tk), .second, .val (.int i1), .val (.int i2), .val (.int i3), .val (.int ls), .val (.int c0), .val (.int c1), .val (.int c2), .val (.int (0 : Int32)), .val (.ref y), .val (.ref a), .unset, .unset, .unset, .unset, .unset] []) := by
  have G : Str Z h a t ((32 : Int32) :: (40 : Int32) :: (116 : Int32) :: (111 : Int32) :: (107 : Int32) :: (101 : Int32) :: (110 : Int32) :: (32 : Int32) :: (dlist n dn ++ [(41 : Int32)])) := by
    rw [ldL, if_neg hneg, hdn] at G0; exact G0
  have hL : ((32 : Int32) :: (40 : Int32) :: (116 : Int32) :: (111 : Int32) :: (107 : Int32) :: (101 : Int32) :: (110 : Int32) :: (32 : Int32) :: (dlist n dn ++ [(41 : Int32)])).length = 9 + dn := by
    show ([(32 : Int32), (40 : Int32), (116 : Int32), (111 : Int32), (107 : Int32), (101 : Int32), (110 : Int32), (32 : Int32)] ++ (dlist n dn ++ [(41 : Int32)])).length = _
    rw [List.length_append, List.length_append, dlist_len]; show 8 + (dn + 1) = _; omega
  have hlast : ((32 : Int32) :: (40 : Int32) :: (116 : Int32) :: (111 : Int32) :: (107 : Int32) :: (101 : Int32) :: (110 : Int32) :: (32 : Int32) :: (dlist n dn ++ [(41 : Int32)])).getD (8 + dn) 0 = 41 := getD_last (A := [(32 : Int32), (40 : Int32), (116 : Int32), (111 : Int32), (107 : Int32), (101 : Int32), (110 : Int32), (32 : Int32)]) (D := dlist n dn) (by rw [dlist_len]; rfl)
  have hq : -tk = Jvm.Free.SBG.negL n := by rw [if_neg hneg] at hx; exact hx
  have latS : ∀ c ∈ ((32 : Int32) :: (40 : Int32) :: (116 : Int32) :: (111 : Int32) :: (107 : Int32) :: (101 : Int32) :: (110 : Int32) :: (32 : Int32) :: (dlist n dn ++ [(41 : Int32)])), ¬ (255 : Int32) < c := lat2 (lc (by decide) (lc (by decide) (lc (by decide) (lc (by decide) (lc (by decide) (lc (by decide) (lc (by decide) (lc (by decide) (la dlist_rng (lc (by decide) ln))))))))))
  have hlt : ¬ lcmpW tk 0 < 0 := fun z => hneg ((lw_lt _ _).mp z)
  refine f_lloadN A at_150 (pc' := 151) rfl rfl ?_
  refine f_lconst A at_151 (pc' := 152) rfl 0 rfl ?_
  refine f_lcmp A at_152 (pc' := 153) rfl (lcmpW tk (0 : Int64)) rfl ?_
  refine f_ifY A at_153 ((if0 _ _).trans (flt hlt).2.1) (pc' := 160) (by decide) (by decide) ?_
  refine f_iconst A at_160 (pc' := 161) rfl 0 rfl ?_
  refine f_istore A at_161 (pc' := 163) rfl (L' := #[.val (.long tk), .second, .val (.int i1), .val (.int i2), .val (.int i3), .val (.int ls), .val (.int c0), .val (.int c1), .val (.int c2), .val (.int (0 : Int32)), .val (.ref y), .val (.ref a), .val (.int (0 : Int32)), .unset, .unset, .unset, .unset]) rfl ?_
  refine f_lloadN A at_163 (pc' := 164) rfl rfl ?_
  refine f_lconst A at_164 (pc' := 165) rfl 0 rfl ?_
  refine f_lcmp A at_165 (pc' := 166) rfl (lcmpW tk (0 : Int64)) rfl ?_
  refine f_ifY A at_166 ((if0 _ _).trans (flt hlt).2.1) (pc' := 173) (by decide) (by decide) ?_
  refine f_lloadN A at_173 (pc' := 174) rfl rfl ?_
  refine f_lneg A at_174 (pc' := 175) rfl (-tk) rfl ?_
  refine f_lstore A at_175 (pc' := 177) rfl (L' := #[.val (.long tk), .second, .val (.int i1), .val (.int i2), .val (.int i3), .val (.int ls), .val (.int c0), .val (.int c1), .val (.int c2), .val (.int (0 : Int32)), .val (.ref y), .val (.ref a), .val (.int (0 : Int32)), .val (.long (-tk)), .second, .unset, .unset]) rfl ?_
  refine f_lload A at_177 (pc' := 179) rfl rfl ?_
  refine f_callS A at_179 (pc' := 182) rfl (wd hw 181 rfl) (wd hw 182 rfl) (wd hw 183 rfl) (wd hw 184 rfl) (by decide) pd18 [(.long (-tk))] [] rfl rfl rfl 0 (Nat.le_of_eq rfl) (CN.pay (W := 0) A (m_dgs l Z a0 hw (-tk) n h n0 A.old hn hq) (wd hw 184 rfl) (wd hw 183 rfl) (by decide) (by decide)) (kc := 0) (ks := 0) (by decide) (by decide) all0 (fun _ => sf0) fun v291 T291 h291 L291 A291 K291 q291 => ?_
  obtain ⟨rfl, hh291⟩ := q291
  obtain rfl := hh291.symm
  rw [hdn]
  show Wp pG e below _ T291 (mkF m 182 _ [(.int (Int32.ofNat dn))])
  refine f_istore A291 at_182 (pc' := 184) rfl (L' := #[.val (.long tk), .second, .val (.int i1), .val (.int i2), .val (.int i3), .val (.int ls), .val (.int c0), .val (.int c1), .val (.int c2), .val (.int (0 : Int32)), .val (.ref y), .val (.ref a), .val (.int (0 : Int32)), .val (.long (-tk)), .second, .val (.int (Int32.ofNat dn)), .unset]) rfl ?_
  refine f_aload A291 at_184 (pc' := 186) rfl rfl rfl ?_
  refine f_callV A291 (a := a) at_186 (pc' := 189) rfl (wd hw 186 rfl) (wd hw 75 rfl) (nfS A291 (wd hw 77 rfl)) (wd hw 77 rfl) (wd hw 76 rfl) (by decide) G.exa pd5 [] [] rfl rfl rfl 0 (Nat.le_of_eq rfl) (payLen (W := 0) A291 hw (wd hw 1 rfl) G O2 P5 (by decide) (by decide)) (kc := 0) (ks := 0) (by decide) (by decide) all0 (fun _ => sf0) fun v292 T292 h292 L292 A292 K292 q292 => ?_
  obtain ⟨rfl, hh292⟩ := q292
  obtain rfl := hh292.symm
  show Wp pG e below _ T292 (mkF m 189 _ [(.int (Int32.ofNat ((32 : Int32) :: (40 : Int32) :: (116 : Int32) :: (111 : Int32) :: (107 : Int32) :: (101 : Int32) :: (110 : Int32) :: (32 : Int32) :: (dlist n dn ++ [(41 : Int32)])).length))])
  refine f_iload A292 at_189 (pc' := 191) rfl rfl ?_
  refine f_bipush A292 at_191 (pc' := 193) rfl 9 rfl ?_
  refine f_iadd A292 at_193 (pc' := 194) rfl (9 : Int32) (by decide) ?_
  refine f_iload A292 at_194 (pc' := 196) rfl rfl ?_
  refine f_iadd A292 at_196 (pc' := 197) rfl (9 : Int32) (by decide) ?_
  refine f_iload A292 at_197 (pc' := 199) rfl rfl ?_
  refine f_iadd A292 at_199 (pc' := 200) rfl ((9 : Int32) + (Int32.ofNat dn)) rfl ?_
  refine f_icY A292 at_200 (teq (by rw [hL]; exact (ofn_add (i := 9) (n := dn) (by omega)).symm)).1 (pc' := 205) (by decide) (by decide) ?_
  refine f_iload A292 at_205 (pc' := 207) rfl rfl ?_
  refine f_ifY A292 at_207 ((if0 _ _).trans (flt (by decide : ¬ (0 : Int32) < (0 : Int32))).2.2.2) (pc' := 223) (by decide) (by decide) ?_
  refine f_iload A292 at_223 (pc' := 225) rfl rfl ?_
  refine f_iconst A292 at_225 (pc' := 226) rfl 1 rfl ?_
  refine f_icY A292 at_226 (flt (by decide : ¬ (1 : Int32) < (0 : Int32))).2.2.2 (pc' := 242) (by decide) (by decide) ?_
  refine f_iload A292 at_242 (pc' := 244) rfl rfl ?_
  refine f_iconst A292 at_244 (pc' := 245) rfl 2 rfl ?_
  refine f_icY A292 at_245 (flt (by decide : ¬ (2 : Int32) < (0 : Int32))).2.2.2 (pc' := 261) (by decide) (by decide) ?_
  refine f_aload A292 at_261 (pc' := 263) rfl rfl rfl ?_
  refine f_iload A292 at_263 (pc' := 265) rfl rfl ?_
  refine f_callV A292 (a := a) at_265 (pc' := 268) rfl (wd hw 187 rfl) (wd hw 188 rfl) (nfS A292 (wd hw 190 rfl)) (wd hw 190 rfl) (wd hw 189 rfl) (by decide) G.exa pd25 [(.int (0 : Int32))] [] rfl rfl rfl 0 (Nat.le_of_eq rfl) (payCh (W := 0) A292 hw (wd hw 1 rfl) G latS O2 P5 O4 rG3 0 (by rw [hL]; omega) rfl (by decide) (by decide)) (kc := 0) (ks := 0) (by decide) (by decide) all0 (fun _ => sf0) fun v293 T293 h293 L293 A293 K293 q293 => ?_
  obtain ⟨rfl, hh293⟩ := q293
  obtain rfl := hh293.symm
  show Wp pG e below _ T293 (mkF m 268 _ [(.int (32 : Int32))])
  refine f_bipush A293 at_268 (pc' := 270) rfl 32 rfl ?_
  refine f_icN A293 at_270 (teq (by decide : (32 : Int32) = (32 : Int32))).2 (pc' := 273) rfl ?_
  refine f_aload A293 at_273 (pc' := 275) rfl rfl rfl ?_
  refine f_iload A293 at_275 (pc' := 277) rfl rfl ?_
  refine f_iconst A293 at_277 (pc' := 278) rfl 1 rfl ?_
  refine f_iadd A293 at_278 (pc' := 279) rfl (1 : Int32) (by decide) ?_
  refine f_callV A293 (a := a) at_279 (pc' := 282) rfl (wd hw 187 rfl) (wd hw 188 rfl) (nfS A293 (wd hw 190 rfl)) (wd hw 190 rfl) (wd hw 189 rfl) (by decide) G.exa pd25 [(.int (1 : Int32))] [] rfl rfl rfl 0 (Nat.le_of_eq rfl) (payCh (W := 0) A293 hw (wd hw 1 rfl) G latS O2 P5 O4 rG3 1 (by rw [hL]; omega) rfl (by decide) (by decide)) (kc := 0) (ks := 0) (by decide) (by decide) all0 (fun _ => sf0) fun v294 T294 h294 L294 A294 K294 q294 => ?_
  obtain ⟨rfl, hh294⟩ := q294
  obtain rfl := hh294.symm
  show Wp pG e below _ T294 (mkF m 282 _ [(.int (40 : Int32))])
  refine f_bipush A294 at_282 (pc' := 284) rfl 40 rfl ?_
  refine f_icN A294 at_284 (teq (by decide : (40 : Int32) = (40 : Int32))).2 (pc' := 287) rfl ?_
  refine f_aload A294 at_287 (pc' := 289) rfl rfl rfl ?_
  refine f_iload A294 at_289 (pc' := 291) rfl rfl ?_
  refine f_iconst A294 at_291 (pc' := 292) rfl 2 rfl ?_
  refine f_iadd A294 at_292 (pc' := 293) rfl (2 : Int32) (by decide) ?_
  refine f_callV A294 (a := a) at_293 (pc' := 296) rfl (wd hw 187 rfl) (wd hw 188 rfl) (nfS A294 (wd hw 190 rfl)) (wd hw 190 rfl) (wd hw 189 rfl) (by decide) G.exa pd25 [(.int (2 : Int32))] [] rfl rfl rfl 0 (Nat.le_of_eq rfl) (payCh (W := 0) A294 hw (wd hw 1 rfl) G latS O2 P5 O4 rG3 2 (by rw [hL]; omega) rfl (by decide) (by decide)) (kc := 0) (ks := 0) (by decide) (by decide) all0 (fun _ => sf0) fun v295 T295 h295 L295 A295 K295 q295 => ?_
  obtain ⟨rfl, hh295⟩ := q295
  obtain rfl := hh295.symm
  show Wp pG e below _ T295 (mkF m 296 _ [(.int (116 : Int32))])
  refine f_bipush A295 at_296 (pc' := 298) rfl 116 rfl ?_
  refine f_icN A295 at_298 (teq (by decide : (116 : Int32) = (116 : Int32))).2 (pc' := 301) rfl ?_
  refine f_aload A295 at_301 (pc' := 303) rfl rfl rfl ?_
  refine f_iload A295 at_303 (pc' := 305) rfl rfl ?_
  refine f_iconst A295 at_305 (pc' := 306) rfl 3 rfl ?_
  refine f_iadd A295 at_306 (pc' := 307) rfl (3 : Int32) (by decide) ?_
  refine f_callV A295 (a := a) at_307 (pc' := 310) rfl (wd hw 187 rfl) (wd hw 188 rfl) (nfS A295 (wd hw 190 rfl)) (wd hw 190 rfl) (wd hw 189 rfl) (by decide) G.exa pd25 [(.int (3 : Int32))] [] rfl rfl rfl 0 (Nat.le_of_eq rfl) (payCh (W := 0) A295 hw (wd hw 1 rfl) G latS O2 P5 O4 rG3 3 (by rw [hL]; omega) rfl (by decide) (by decide)) (kc := 0) (ks := 0) (by decide) (by decide) all0 (fun _ => sf0) fun v296 T296 h296 L296 A296 K296 q296 => ?_
  obtain ⟨rfl, hh296⟩ := q296
  obtain rfl := hh296.symm
  show Wp pG e below _ T296 (mkF m 310 _ [(.int (111 : Int32))])
  refine f_bipush A296 at_310 (pc' := 312) rfl 111 rfl ?_
  refine f_icN A296 at_312 (teq (by decide : (111 : Int32) = (111 : Int32))).2 (pc' := 315) rfl ?_
  refine f_aload A296 at_315 (pc' := 317) rfl rfl rfl ?_
  refine f_iload A296 at_317 (pc' := 319) rfl rfl ?_
  refine f_iconst A296 at_319 (pc' := 320) rfl 4 rfl ?_
  refine f_iadd A296 at_320 (pc' := 321) rfl (4 : Int32) (by decide) ?_
  refine f_callV A296 (a := a) at_321 (pc' := 324) rfl (wd hw 187 rfl) (wd hw 188 rfl) (nfS A296 (wd hw 190 rfl)) (wd hw 190 rfl) (wd hw 189 rfl) (by decide) G.exa pd25 [(.int (4 : Int32))] [] rfl rfl rfl 0 (Nat.le_of_eq rfl) (payCh (W := 0) A296 hw (wd hw 1 rfl) G latS O2 P5 O4 rG3 4 (by rw [hL]; omega) rfl (by decide) (by decide)) (kc := 0) (ks := 0) (by decide) (by decide) all0 (fun _ => sf0) fun v297 T297 h297 L297 A297 K297 q297 => ?_
  obtain ⟨rfl, hh297⟩ := q297
  obtain rfl := hh297.symm
  show Wp pG e below _ T297 (mkF m 324 _ [(.int (107 : Int32))])
  refine f_bipush A297 at_324 (pc' := 326) rfl 107 rfl ?_
  refine f_icN A297 at_326 (teq (by decide : (107 : Int32) = (107 : Int32))).2 (pc' := 329) rfl ?_
  refine f_aload A297 at_329 (pc' := 331) rfl rfl rfl ?_
  refine f_iload A297 at_331 (pc' := 333) rfl rfl ?_
  refine f_iconst A297 at_333 (pc' := 334) rfl 5 rfl ?_
  refine f_iadd A297 at_334 (pc' := 335) rfl (5 : Int32) (by decide) ?_
  refine f_callV A297 (a := a) at_335 (pc' := 338) rfl (wd hw 187 rfl) (wd hw 188 rfl) (nfS A297 (wd hw 190 rfl)) (wd hw 190 rfl) (wd hw 189 rfl) (by decide) G.exa pd25 [(.int (5 : Int32))] [] rfl rfl rfl 0 (Nat.le_of_eq rfl) (payCh (W := 0) A297 hw (wd hw 1 rfl) G latS O2 P5 O4 rG3 5 (by rw [hL]; omega) rfl (by decide) (by decide)) (kc := 0) (ks := 0) (by decide) (by decide) all0 (fun _ => sf0) fun v298 T298 h298 L298 A298 K298 q298 => ?_
  obtain ⟨rfl, hh298⟩ := q298
  obtain rfl := hh298.symm
  show Wp pG e below _ T298 (mkF m 338 _ [(.int (101 : Int32))])
  refine f_bipush A298 at_338 (pc' := 340) rfl 101 rfl ?_
  refine f_icN A298 at_340 (teq (by decide : (101 : Int32) = (101 : Int32))).2 (pc' := 343) rfl ?_
  refine f_aload A298 at_343 (pc' := 345) rfl rfl rfl ?_
  refine f_iload A298 at_345 (pc' := 347) rfl rfl ?_
  refine f_bipush A298 at_347 (pc' := 349) rfl 6 rfl ?_
  refine f_iadd A298 at_349 (pc' := 350) rfl (6 : Int32) (by decide) ?_
  refine f_callV A298 (a := a) at_350 (pc' := 353) rfl (wd hw 187 rfl) (wd hw 188 rfl) (nfS A298 (wd hw 190 rfl)) (wd hw 190 rfl) (wd hw 189 rfl) (by decide) G.exa pd25 [(.int (6 : Int32))] [] rfl rfl rfl 0 (Nat.le_of_eq rfl) (payCh (W := 0) A298 hw (wd hw 1 rfl) G latS O2 P5 O4 rG3 6 (by rw [hL]; omega) rfl (by decide) (by decide)) (kc := 0) (ks := 0) (by decide) (by decide) all0 (fun _ => sf0) fun v299 T299 h299 L299 A299 K299 q299 => ?_
  obtain ⟨rfl, hh299⟩ := q299
  obtain rfl := hh299.symm
  show Wp pG e below _ T299 (mkF m 353 _ [(.int (110 : Int32))])
  refine f_bipush A299 at_353 (pc' := 355) rfl 110 rfl ?_
  refine f_icN A299 at_355 (teq (by decide : (110 : Int32) = (110 : Int32))).2 (pc' := 358) rfl ?_
  refine f_aload A299 at_358 (pc' := 360) rfl rfl rfl ?_
  refine f_iload A299 at_360 (pc' := 362) rfl rfl ?_
  refine f_bipush A299 at_362 (pc' := 364) rfl 7 rfl ?_
  refine f_iadd A299 at_364 (pc' := 365) rfl (7 : Int32) (by decide) ?_
  refine f_callV A299 (a := a) at_365 (pc' := 368) rfl (wd hw 187 rfl) (wd hw 188 rfl) (nfS A299 (wd hw 190 rfl)) (wd hw 190 rfl) (wd hw 189 rfl) (by decide) G.exa pd25 [(.int (7 : Int32))] [] rfl rfl rfl 0 (Nat.le_of_eq rfl) (payCh (W := 0) A299 hw (wd hw 1 rfl) G latS O2 P5 O4 rG3 7 (by rw [hL]; omega) rfl (by decide) (by decide)) (kc := 0) (ks := 0) (by decide) (by decide) all0 (fun _ => sf0) fun v300 T300 h300 L300 A300 K300 q300 => ?_
  obtain ⟨rfl, hh300⟩ := q300
  obtain rfl := hh300.symm
  show Wp pG e below _ T300 (mkF m 368 _ [(.int (32 : Int32))])
  refine f_bipush A300 at_368 (pc' := 370) rfl 32 rfl ?_
  refine f_icY A300 at_370 (teq (by decide : (32 : Int32) = (32 : Int32))).1 (pc' := 375) (by decide) (by decide) ?_
  refine f_iload A300 at_375 (pc' := 377) rfl rfl ?_
  refine f_iconst A300 at_377 (pc' := 378) rfl 1 rfl ?_
  refine f_icY A300 at_378 (feq (by decide : ¬ (0 : Int32) = (1 : Int32))).2 (pc' := 398) (by decide) (by decide) ?_
  refine f_aload A300 at_398 (pc' := 400) rfl rfl rfl ?_
  refine f_callV A300 (a := a) at_400 (pc' := 403) rfl (wd hw 186 rfl) (wd hw 75 rfl) (nfS A300 (wd hw 77 rfl)) (wd hw 77 rfl) (wd hw 76 rfl) (by decide) G.exa pd5 [] [] rfl rfl rfl 0 (Nat.le_of_eq rfl) (payLen (W := 0) A300 hw (wd hw 1 rfl) G O2 P5 (by decide) (by decide)) (kc := 0) (ks := 0) (by decide) (by decide) all0 (fun _ => sf0) fun v301 T301 h301 L301 A301 K301 q301 => ?_
  obtain ⟨rfl, hh301⟩ := q301
  obtain rfl := hh301.symm
  show Wp pG e below _ T301 (mkF m 403 _ [(.int (Int32.ofNat ((32 : Int32) :: (40 : Int32) :: (116 : Int32) :: (111 : Int32) :: (107 : Int32) :: (101 : Int32) :: (110 : Int32) :: (32 : Int32) :: (dlist n dn ++ [(41 : Int32)])).length))])
  refine f_iconst A301 at_403 (pc' := 404) rfl 2 rfl ?_
  refine f_isub A301 at_404 (pc' := 405) rfl (Int32.ofNat (8 + dn + 1 - 2)) (by rw [hL, show 9 + dn = 8 + dn + 1 by omega]; exact ofn_sub (n := 2) (by omega) (by omega)) ?_
  refine f_istore A301 at_405 (pc' := 407) rfl (L' := #[.val (.long tk), .second, .val (.int i1), .val (.int i2), .val (.int i3), .val (.int ls), .val (.int c0), .val (.int c1), .val (.int c2), .val (.int (0 : Int32)), .val (.ref y), .val (.ref a), .val (.int (0 : Int32)), .val (.long (-tk)), .second, .val (.int (Int32.ofNat dn)), .val (.int (Int32.ofNat (8 + dn + 1 - 2)))]) rfl ?_
  refine f_aload A301 at_407 (pc' := 409) rfl rfl rfl ?_
  refine f_iload A301 at_409 (pc' := 411) rfl rfl ?_
  refine f_iconst A301 at_411 (pc' := 412) rfl 1 rfl ?_
  refine f_iadd A301 at_412 (pc' := 413) rfl (Int32.ofNat (8 + dn)) (by rw [ofn_one (by omega), show 8 + dn + 1 - 2 + 1 = 8 + dn by omega]) ?_
  refine f_callV A301 (a := a) at_413 (pc' := 416) rfl (wd hw 187 rfl) (wd hw 188 rfl) (nfS A301 (wd hw 190 rfl)) (wd hw 190 rfl) (wd hw 189 rfl) (by decide) G.exa pd25 [(.int (Int32.ofNat (8 + dn)))] [] rfl rfl rfl 0 (Nat.le_of_eq rfl) (payCh (W := 0) A301 hw (wd hw 1 rfl) G latS O2 P5 O4 rG3 (8 + dn) (by rw [hL]; omega) rfl (by decide) (by decide)) (kc := 0) (ks := 0) (by decide) (by decide) all0 (fun _ => sf0) fun v302 T302 h302 L302 A302 K302 q302 => ?_
  obtain ⟨e302, hh302⟩ := q302
  obtain rfl := hh302.symm
  rw [hlast] at e302
  subst e302
  show Wp pG e below _ T302 (mkF m 416 _ [(.int (41 : Int32))])
  refine f_bipush A302 at_416 (pc' := 418) rfl 41 rfl ?_
  refine f_icY A302 at_418 (teq (by decide : (41 : Int32) = (41 : Int32))).1 (pc' := 423) (by decide) (by decide) ?_
  exact m_dgt l Z a0 hw tk i1 i2 i3 ls c0 c1 c2 _ _ y a t (-tk) n dn 8 [(32 : Int32), (40 : Int32), (116 : Int32), (111 : Int32), (107 : Int32), (101 : Int32), (110 : Int32), (32 : Int32)] zc O2 P5 fm O4 rG3 h0 n0 hEL hlk hret _ _ _ _ A302 Kh G latS hn hq hdn20 rfl (by decide)
set_option maxRecDepth 65536 in
set_option maxHeartbeats 40000000 in
theorem m_tl1n (l : Launch) (Z : State) (a0 : Array Value) (hw : ∀ d ∈ tables_1, d.before a0 Z = true) (tk : Int64) (i1 i2 i3 ls : Int32) (c0 c1 c2 : Int32) (y a t : Addr) (n dn : Nat) (zc : Int32) (O2 : Sta Z Z.heap "java/lang/String" "COMPACT_STRINGS" "Z" (.int zc)) (P5 : ¬ zc = 0) (fm : Value) (O4 : Sta Z Z.heap "jdk/internal/util/Preconditions" "SIOOBE_FORMATTER" "Ljava/util/function/BiFunction;" fm) (rG3 : fm.isRef = true) (h0 : Heap) (n0 : Nat) (hEL : EW Z a0 ELs) {pG : Program} {e : Env} {s : State} {m : MethodId} {below : List Frame} {meth : Method} {cO : Code} (hlk : meth.locks = false) (hret : meth.sig.returnType = ret) (vm : Vm) (T : State) (h : Heap) (locs : List Loc) (A : WS pG l e room_1 s m #[(.long tk), (.int i1), (.int i2), (.int i3), (.int ls)] below meth cO Z ELs n0 x.cls code maxLocals true vm T h locs 32 3392) (Kh : Keep h0 h []) (G0 : Str Z h a t ([c0] ++ [(32 : Int32), (40 : Int32), (116 : Int32), (111 : Int32), (107 : Int32), (101 : Int32), (110 : Int32), (32 : Int32)] ++ ldL tk n ++ [(41 : Int32)])) (r0 : ¬ c0 < 0 ∧ ¬ (255 : Int32) < c0) (r1 : ¬ c1 < 0 ∧ ¬ (255 : Int32) < c1) (r2 : ¬ c2 < 0 ∧ ¬ (255 : Int32) < c2) (hn : n ≤ 2 ^ 63) (hx : (if tk < 0 then tk else -tk) = Jvm.Free.SBG.negL n) (hdn : Jvm.Free.SBG.digitsL n = dn) (hdn0 : 1 ≤ dn) (hdn20 : dn ≤ 20) (hneg : tk < 0) :
    Wp pG e below (PW s Z ELs n0 h0 [] (fun v h => v = some (.int 1)) room_1.cells room_1.slots) T (mkF m 150 #[.val (.long tk), .second, .val (.int i1), .val (.int i2), .val (.int i3), .val (.int ls), .val (.int c0), .val (.int c1), .val (.int c2), .val (.int (1 : Int32)), .val (.ref y), .val (.ref a), .unset, .unset, .unset, .unset, .unset] []) := by
  have G : Str Z h a t (c0 :: (32 : Int32) :: (40 : Int32) :: (116 : Int32) :: (111 : Int32) :: (107 : Int32) :: (101 : Int32) :: (110 : Int32) :: (32 : Int32) :: (45 : Int32) :: (dlist n dn ++ [(41 : Int32)])) := by
    rw [ldL, if_pos hneg, hdn] at G0; exact G0
  have hL : (c0 :: (32 : Int32) :: (40 : Int32) :: (116 : Int32) :: (111 : Int32) :: (107 : Int32) :: (101 : Int32) :: (110 : Int32) :: (32 : Int32) :: (45 : Int32) :: (dlist n dn ++ [(41 : Int32)])).length = 11 + dn := by
    show ([c0, (32 : Int32), (40 : Int32), (116 : Int32), (111 : Int32), (107 : Int32), (101 : Int32), (110 : Int32), (32 : Int32), (45 : Int32)] ++ (dlist n dn ++ [(41 : Int32)])).length = _
    rw [List.length_append, List.length_append, dlist_len]; show 10 + (dn + 1) = _; omega
  have hlast : (c0 :: (32 : Int32) :: (40 : Int32) :: (116 : Int32) :: (111 : Int32) :: (107 : Int32) :: (101 : Int32) :: (110 : Int32) :: (32 : Int32) :: (45 : Int32) :: (dlist n dn ++ [(41 : Int32)])).getD (10 + dn) 0 = 41 := getD_last (A := [c0, (32 : Int32), (40 : Int32), (116 : Int32), (111 : Int32), (107 : Int32), (101 : Int32), (110 : Int32), (32 : Int32), (45 : Int32)]) (D := dlist n dn) (by rw [dlist_len]; rfl)
  have hq : tk = Jvm.Free.SBG.negL n := by rw [if_pos hneg] at hx; exact hx
  have latS : ∀ c ∈ (c0 :: (32 : Int32) :: (40 : Int32) :: (116 : Int32) :: (111 : Int32) :: (107 : Int32) :: (101 : Int32) :: (110 : Int32) :: (32 : Int32) :: (45 : Int32) :: (dlist n dn ++ [(41 : Int32)])), ¬ (255 : Int32) < c := lat2 (lc r0 (lc (by decide) (lc (by decide) (lc (by decide) (lc (by decide) (lc (by decide) (lc (by decide) (lc (by decide) (lc (by decide) (lc (by decide) (la dlist_rng (lc (by decide) ln))))))))))))
  have hlt : lcmpW tk 0 < 0 := (lw_lt _ _).mpr hneg
  refine f_lloadN A at_150 (pc' := 151) rfl rfl ?_
  refine f_lconst A at_151 (pc' := 152) rfl 0 rfl ?_
  refine f_lcmp A at_152 (pc' := 153) rfl (lcmpW tk (0 : Int64)) rfl ?_
  refine f_ifN A at_153 ((if0 _ _).trans (tlt hlt).2.1) (pc' := 156) rfl ?_
  refine f_iconst A at_156 (pc' := 157) rfl 1 rfl ?_
  refine f_goto A at_157 (pc' := 161) (by decide) (by decide) ?_
  refine f_istore A at_161 (pc' := 163) rfl (L' := #[.val (.long tk), .second, .val (.int i1), .val (.int i2), .val (.int i3), .val (.int ls), .val (.int c0), .val (.int c1), .val (.int c2), .val (.int (1 : Int32)), .val (.ref y), .val (.ref a), .val (.int (1 : Int32)), .unset, .unset, .unset, .unset]) rfl ?_
  refine f_lloadN A at_163 (pc' := 164) rfl rfl ?_
  refine f_lconst A at_164 (pc' := 165) rfl 0 rfl ?_
  refine f_lcmp A at_165 (pc' := 166) rfl (lcmpW tk (0 : Int64)) rfl ?_
  refine f_ifN A at_166 ((if0 _ _).trans (tlt hlt).2.1) (pc' := 169) rfl ?_
  refine f_lloadN A at_169 (pc' := 170) rfl rfl ?_
  refine f_goto A at_170 (pc' := 175) (by decide) (by decide) ?_
  refine f_lstore A at_175 (pc' := 177) rfl (L' := #[.val (.long tk), .second, .val (.int i1), .val (.int i2), .val (.int i3), .val (.int ls), .val (.int c0), .val (.int c1), .val (.int c2), .val (.int (1 : Int32)), .val (.ref y), .val (.ref a), .val (.int (1 : Int32)), .val (.long tk), .second, .unset, .unset]) rfl ?_
  refine f_lload A at_177 (pc' := 179) rfl rfl ?_
  refine f_callS A at_179 (pc' := 182) rfl (wd hw 181 rfl) (wd hw 182 rfl) (wd hw 183 rfl) (wd hw 184 rfl) (by decide) pd18 [(.long tk)] [] rfl rfl rfl 0 (Nat.le_of_eq rfl) (CN.pay (W := 0) A (m_dgs l Z a0 hw tk n h n0 A.old hn hq) (wd hw 184 rfl) (wd hw 183 rfl) (by decide) (by decide)) (kc := 0) (ks := 0) (by decide) (by decide) all0 (fun _ => sf0) fun v303 T303 h303 L303 A303 K303 q303 => ?_
  obtain ⟨rfl, hh303⟩ := q303
  obtain rfl := hh303.symm
  rw [hdn]
  show Wp pG e below _ T303 (mkF m 182 _ [(.int (Int32.ofNat dn))])
  refine f_istore A303 at_182 (pc' := 184) rfl (L' := #[.val (.long tk), .second, .val (.int i1), .val (.int i2), .val (.int i3), .val (.int ls), .val (.int c0), .val (.int c1), .val (.int c2), .val (.int (1 : Int32)), .val (.ref y), .val (.ref a), .val (.int (1 : Int32)), .val (.long tk), .second, .val (.int (Int32.ofNat dn)), .unset]) rfl ?_
  refine f_aload A303 at_184 (pc' := 186) rfl rfl rfl ?_
  refine f_callV A303 (a := a) at_186 (pc' := 189) rfl (wd hw 186 rfl) (wd hw 75 rfl) (nfS A303 (wd hw 77 rfl)) (wd hw 77 rfl) (wd hw 76 rfl) (by decide) G.exa pd5 [] [] rfl rfl rfl 0 (Nat.le_of_eq rfl) (payLen (W := 0) A303 hw (wd hw 1 rfl) G O2 P5 (by decide) (by decide)) (kc := 0) (ks := 0) (by decide) (by decide) all0 (fun _ => sf0) fun v304 T304 h304 L304 A304 K304 q304 => ?_
  obtain ⟨rfl, hh304⟩ := q304
  obtain rfl := hh304.symm
  show Wp pG e below _ T304 (mkF m 189 _ [(.int (Int32.ofNat (c0 :: (32 : Int32) :: (40 : Int32) :: (116 : Int32) :: (111 : Int32) :: (107 : Int32) :: (101 : Int32) :: (110 : Int32) :: (32 : Int32) :: (45 : Int32) :: (dlist n dn ++ [(41 : Int32)])).length))])
  refine f_iload A304 at_189 (pc' := 191) rfl rfl ?_
  refine f_bipush A304 at_191 (pc' := 193) rfl 9 rfl ?_
  refine f_iadd A304 at_193 (pc' := 194) rfl (10 : Int32) (by decide) ?_
  refine f_iload A304 at_194 (pc' := 196) rfl rfl ?_
  refine f_iadd A304 at_196 (pc' := 197) rfl (11 : Int32) (by decide) ?_
  refine f_iload A304 at_197 (pc' := 199) rfl rfl ?_
  refine f_iadd A304 at_199 (pc' := 200) rfl ((11 : Int32) + (Int32.ofNat dn)) rfl ?_
  refine f_icY A304 at_200 (teq (by rw [hL]; exact (ofn_add (i := 11) (n := dn) (by omega)).symm)).1 (pc' := 205) (by decide) (by decide) ?_
  refine f_iload A304 at_205 (pc' := 207) rfl rfl ?_
  refine f_ifN A304 at_207 ((if0 _ _).trans (tlt (by decide : (0 : Int32) < (1 : Int32))).2.2.2) (pc' := 210) rfl ?_
  refine f_aload A304 at_210 (pc' := 212) rfl rfl rfl ?_
  refine f_iconst A304 at_212 (pc' := 213) rfl 0 rfl ?_
  refine f_callV A304 (a := a) at_213 (pc' := 216) rfl (wd hw 187 rfl) (wd hw 188 rfl) (nfS A304 (wd hw 190 rfl)) (wd hw 190 rfl) (wd hw 189 rfl) (by decide) G.exa pd25 [(.int (0 : Int32))] [] rfl rfl rfl 0 (Nat.le_of_eq rfl) (payCh (W := 0) A304 hw (wd hw 1 rfl) G latS O2 P5 O4 rG3 0 (by rw [hL]; omega) rfl (by decide) (by decide)) (kc := 0) (ks := 0) (by decide) (by decide) all0 (fun _ => sf0) fun v305 T305 h305 L305 A305 K305 q305 => ?_
  obtain ⟨rfl, hh305⟩ := q305
  obtain rfl := hh305.symm
  show Wp pG e below _ T305 (mkF m 216 _ [(.int c0)])
  refine f_iload A305 at_216 (pc' := 218) rfl rfl ?_
  refine f_icY A305 at_218 (teq rfl).1 (pc' := 223) (by decide) (by decide) ?_
  refine f_iload A305 at_223 (pc' := 225) rfl rfl ?_
  refine f_iconst A305 at_225 (pc' := 226) rfl 1 rfl ?_
  refine f_icY A305 at_226 (flt (by decide : ¬ (1 : Int32) < (1 : Int32))).2.2.2 (pc' := 242) (by decide) (by decide) ?_
  refine f_iload A305 at_242 (pc' := 244) rfl rfl ?_
  refine f_iconst A305 at_244 (pc' := 245) rfl 2 rfl ?_
  refine f_icY A305 at_245 (flt (by decide : ¬ (2 : Int32) < (1 : Int32))).2.2.2 (pc' := 261) (by decide) (by decide) ?_
  refine f_aload A305 at_261 (pc' := 263) rfl rfl rfl ?_
  refine f_iload A305 at_263 (pc' := 265) rfl rfl ?_
  refine f_callV A305 (a := a) at_265 (pc' := 268) rfl (wd hw 187 rfl) (wd hw 188 rfl) (nfS A305 (wd hw 190 rfl)) (wd hw 190 rfl) (wd hw 189 rfl) (by decide) G.exa pd25 [(.int (1 : Int32))] [] rfl rfl rfl 0 (Nat.le_of_eq rfl) (payCh (W := 0) A305 hw (wd hw 1 rfl) G latS O2 P5 O4 rG3 1 (by rw [hL]; omega) rfl (by decide) (by decide)) (kc := 0) (ks := 0) (by decide) (by decide) all0 (fun _ => sf0) fun v306 T306 h306 L306 A306 K306 q306 => ?_
  obtain ⟨rfl, hh306⟩ := q306
  obtain rfl := hh306.symm
  show Wp pG e below _ T306 (mkF m 268 _ [(.int (32 : Int32))])
  refine f_bipush A306 at_268 (pc' := 270) rfl 32 rfl ?_
  refine f_icN A306 at_270 (teq (by decide : (32 : Int32) = (32 : Int32))).2 (pc' := 273) rfl ?_
  refine f_aload A306 at_273 (pc' := 275) rfl rfl rfl ?_
  refine f_iload A306 at_275 (pc' := 277) rfl rfl ?_
  refine f_iconst A306 at_277 (pc' := 278) rfl 1 rfl ?_
  refine f_iadd A306 at_278 (pc' := 279) rfl (2 : Int32) (by decide) ?_
  refine f_callV A306 (a := a) at_279 (pc' := 282) rfl (wd hw 187 rfl) (wd hw 188 rfl) (nfS A306 (wd hw 190 rfl)) (wd hw 190 rfl) (wd hw 189 rfl) (by decide) G.exa pd25 [(.int (2 : Int32))] [] rfl rfl rfl 0 (Nat.le_of_eq rfl) (payCh (W := 0) A306 hw (wd hw 1 rfl) G latS O2 P5 O4 rG3 2 (by rw [hL]; omega) rfl (by decide) (by decide)) (kc := 0) (ks := 0) (by decide) (by decide) all0 (fun _ => sf0) fun v307 T307 h307 L307 A307 K307 q307 => ?_
  obtain ⟨rfl, hh307⟩ := q307
  obtain rfl := hh307.symm
  show Wp pG e below _ T307 (mkF m 282 _ [(.int (40 : Int32))])
  refine f_bipush A307 at_282 (pc' := 284) rfl 40 rfl ?_
  refine f_icN A307 at_284 (teq (by decide : (40 : Int32) = (40 : Int32))).2 (pc' := 287) rfl ?_
  refine f_aload A307 at_287 (pc' := 289) rfl rfl rfl ?_
  refine f_iload A307 at_289 (pc' := 291) rfl rfl ?_
  refine f_iconst A307 at_291 (pc' := 292) rfl 2 rfl ?_
  refine f_iadd A307 at_292 (pc' := 293) rfl (3 : Int32) (by decide) ?_
  refine f_callV A307 (a := a) at_293 (pc' := 296) rfl (wd hw 187 rfl) (wd hw 188 rfl) (nfS A307 (wd hw 190 rfl)) (wd hw 190 rfl) (wd hw 189 rfl) (by decide) G.exa pd25 [(.int (3 : Int32))] [] rfl rfl rfl 0 (Nat.le_of_eq rfl) (payCh (W := 0) A307 hw (wd hw 1 rfl) G latS O2 P5 O4 rG3 3 (by rw [hL]; omega) rfl (by decide) (by decide)) (kc := 0) (ks := 0) (by decide) (by decide) all0 (fun _ => sf0) fun v308 T308 h308 L308 A308 K308 q308 => ?_
  obtain ⟨rfl, hh308⟩ := q308
  obtain rfl := hh308.symm
  show Wp pG e below _ T308 (mkF m 296 _ [(.int (116 : Int32))])
  refine f_bipush A308 at_296 (pc' := 298) rfl 116 rfl ?_
  refine f_icN A308 at_298 (teq (by decide : (116 : Int32) = (116 : Int32))).2 (pc' := 301) rfl ?_
  refine f_aload A308 at_301 (pc' := 303) rfl rfl rfl ?_
  refine f_iload A308 at_303 (pc' := 305) rfl rfl ?_
  refine f_iconst A308 at_305 (pc' := 306) rfl 3 rfl ?_
  refine f_iadd A308 at_306 (pc' := 307) rfl (4 : Int32) (by decide) ?_
  refine f_callV A308 (a := a) at_307 (pc' := 310) rfl (wd hw 187 rfl) (wd hw 188 rfl) (nfS A308 (wd hw 190 rfl)) (wd hw 190 rfl) (wd hw 189 rfl) (by decide) G.exa pd25 [(.int (4 : Int32))] [] rfl rfl rfl 0 (Nat.le_of_eq rfl) (payCh (W := 0) A308 hw (wd hw 1 rfl) G latS O2 P5 O4 rG3 4 (by rw [hL]; omega) rfl (by decide) (by decide)) (kc := 0) (ks := 0) (by decide) (by decide) all0 (fun _ => sf0) fun v309 T309 h309 L309 A309 K309 q309 => ?_
  obtain ⟨rfl, hh309⟩ := q309
  obtain rfl := hh309.symm
  show Wp pG e below _ T309 (mkF m 310 _ [(.int (111 : Int32))])
  refine f_bipush A309 at_310 (pc' := 312) rfl 111 rfl ?_
  refine f_icN A309 at_312 (teq (by decide : (111 : Int32) = (111 : Int32))).2 (pc' := 315) rfl ?_
  refine f_aload A309 at_315 (pc' := 317) rfl rfl rfl ?_
  refine f_iload A309 at_317 (pc' := 319) rfl rfl ?_
  refine f_iconst A309 at_319 (pc' := 320) rfl 4 rfl ?_
  refine f_iadd A309 at_320 (pc' := 321) rfl (5 : Int32) (by decide) ?_
  refine f_callV A309 (a := a) at_321 (pc' := 324) rfl (wd hw 187 rfl) (wd hw 188 rfl) (nfS A309 (wd hw 190 rfl)) (wd hw 190 rfl) (wd hw 189 rfl) (by decide) G.exa pd25 [(.int (5 : Int32))] [] rfl rfl rfl 0 (Nat.le_of_eq rfl) (payCh (W := 0) A309 hw (wd hw 1 rfl) G latS O2 P5 O4 rG3 5 (by rw [hL]; omega) rfl (by decide) (by decide)) (kc := 0) (ks := 0) (by decide) (by decide) all0 (fun _ => sf0) fun v310 T310 h310 L310 A310 K310 q310 => ?_
  obtain ⟨rfl, hh310⟩ := q310
  obtain rfl := hh310.symm
  show Wp pG e below _ T310 (mkF m 324 _ [(.int (107 : Int32))])
  refine f_bipush A310 at_324 (pc' := 326) rfl 107 rfl ?_
  refine f_icN A310 at_326 (teq (by decide : (107 : Int32) = (107 : Int32))).2 (pc' := 329) rfl ?_
  refine f_aload A310 at_329 (pc' := 331) rfl rfl rfl ?_
  refine f_iload A310 at_331 (pc' := 333) rfl rfl ?_
  refine f_iconst A310 at_333 (pc' := 334) rfl 5 rfl ?_
  refine f_iadd A310 at_334 (pc' := 335) rfl (6 : Int32) (by decide) ?_
  refine f_callV A310 (a := a) at_335 (pc' := 338) rfl (wd hw 187 rfl) (wd hw 188 rfl) (nfS A310 (wd hw 190 rfl)) (wd hw 190 rfl) (wd hw 189 rfl) (by decide) G.exa pd25 [(.int (6 : Int32))] [] rfl rfl rfl 0 (Nat.le_of_eq rfl) (payCh (W := 0) A310 hw (wd hw 1 rfl) G latS O2 P5 O4 rG3 6 (by rw [hL]; omega) rfl (by decide) (by decide)) (kc := 0) (ks := 0) (by decide) (by decide) all0 (fun _ => sf0) fun v311 T311 h311 L311 A311 K311 q311 => ?_
  obtain ⟨rfl, hh311⟩ := q311
  obtain rfl := hh311.symm
  show Wp pG e below _ T311 (mkF m 338 _ [(.int (101 : Int32))])
  refine f_bipush A311 at_338 (pc' := 340) rfl 101 rfl ?_
  refine f_icN A311 at_340 (teq (by decide : (101 : Int32) = (101 : Int32))).2 (pc' := 343) rfl ?_
  refine f_aload A311 at_343 (pc' := 345) rfl rfl rfl ?_
  refine f_iload A311 at_345 (pc' := 347) rfl rfl ?_
  refine f_bipush A311 at_347 (pc' := 349) rfl 6 rfl ?_
  refine f_iadd A311 at_349 (pc' := 350) rfl (7 : Int32) (by decide) ?_
  refine f_callV A311 (a := a) at_350 (pc' := 353) rfl (wd hw 187 rfl) (wd hw 188 rfl) (nfS A311 (wd hw 190 rfl)) (wd hw 190 rfl) (wd hw 189 rfl) (by decide) G.exa pd25 [(.int (7 : Int32))] [] rfl rfl rfl 0 (Nat.le_of_eq rfl) (payCh (W := 0) A311 hw (wd hw 1 rfl) G latS O2 P5 O4 rG3 7 (by rw [hL]; omega) rfl (by decide) (by decide)) (kc := 0) (ks := 0) (by decide) (by decide) all0 (fun _ => sf0) fun v312 T312 h312 L312 A312 K312 q312 => ?_
  obtain ⟨rfl, hh312⟩ := q312
  obtain rfl := hh312.symm
  show Wp pG e below _ T312 (mkF m 353 _ [(.int (110 : Int32))])
  refine f_bipush A312 at_353 (pc' := 355) rfl 110 rfl ?_
  refine f_icN A312 at_355 (teq (by decide : (110 : Int32) = (110 : Int32))).2 (pc' := 358) rfl ?_
  refine f_aload A312 at_358 (pc' := 360) rfl rfl rfl ?_
  refine f_iload A312 at_360 (pc' := 362) rfl rfl ?_
  refine f_bipush A312 at_362 (pc' := 364) rfl 7 rfl ?_
  refine f_iadd A312 at_364 (pc' := 365) rfl (8 : Int32) (by decide) ?_
  refine f_callV A312 (a := a) at_365 (pc' := 368) rfl (wd hw 187 rfl) (wd hw 188 rfl) (nfS A312 (wd hw 190 rfl)) (wd hw 190 rfl) (wd hw 189 rfl) (by decide) G.exa pd25 [(.int (8 : Int32))] [] rfl rfl rfl 0 (Nat.le_of_eq rfl) (payCh (W := 0) A312 hw (wd hw 1 rfl) G latS O2 P5 O4 rG3 8 (by rw [hL]; omega) rfl (by decide) (by decide)) (kc := 0) (ks := 0) (by decide) (by decide) all0 (fun _ => sf0) fun v313 T313 h313 L313 A313 K313 q313 => ?_
  obtain ⟨rfl, hh313⟩ := q313
  obtain rfl := hh313.symm
  show Wp pG e below _ T313 (mkF m 368 _ [(.int (32 : Int32))])
  refine f_bipush A313 at_368 (pc' := 370) rfl 32 rfl ?_
  refine f_icY A313 at_370 (teq (by decide : (32 : Int32) = (32 : Int32))).1 (pc' := 375) (by decide) (by decide) ?_
  refine f_iload A313 at_375 (pc' := 377) rfl rfl ?_
  refine f_iconst A313 at_377 (pc' := 378) rfl 1 rfl ?_
  refine f_icN A313 at_378 (teq (by decide : (1 : Int32) = (1 : Int32))).2 (pc' := 381) rfl ?_
  refine f_aload A313 at_381 (pc' := 383) rfl rfl rfl ?_
  refine f_iload A313 at_383 (pc' := 385) rfl rfl ?_
  refine f_bipush A313 at_385 (pc' := 387) rfl 8 rfl ?_
  refine f_iadd A313 at_387 (pc' := 388) rfl (9 : Int32) (by decide) ?_
  refine f_callV A313 (a := a) at_388 (pc' := 391) rfl (wd hw 187 rfl) (wd hw 188 rfl) (nfS A313 (wd hw 190 rfl)) (wd hw 190 rfl) (wd hw 189 rfl) (by decide) G.exa pd25 [(.int (9 : Int32))] [] rfl rfl rfl 0 (Nat.le_of_eq rfl) (payCh (W := 0) A313 hw (wd hw 1 rfl) G latS O2 P5 O4 rG3 9 (by rw [hL]; omega) rfl (by decide) (by decide)) (kc := 0) (ks := 0) (by decide) (by decide) all0 (fun _ => sf0) fun v314 T314 h314 L314 A314 K314 q314 => ?_
  obtain ⟨rfl, hh314⟩ := q314
  obtain rfl := hh314.symm
  show Wp pG e below _ T314 (mkF m 391 _ [(.int (45 : Int32))])
  refine f_bipush A314 at_391 (pc' := 393) rfl 45 rfl ?_
  refine f_icY A314 at_393 (teq (by decide : (45 : Int32) = (45 : Int32))).1 (pc' := 398) (by decide) (by decide) ?_
  refine f_aload A314 at_398 (pc' := 400) rfl rfl rfl ?_
  refine f_callV A314 (a := a) at_400 (pc' := 403) rfl (wd hw 186 rfl) (wd hw 75 rfl) (nfS A314 (wd hw 77 rfl)) (wd hw 77 rfl) (wd hw 76 rfl) (by decide) G.exa pd5 [] [] rfl rfl rfl 0 (Nat.le_of_eq rfl) (payLen (W := 0) A314 hw (wd hw 1 rfl) G O2 P5 (by decide) (by decide)) (kc := 0) (ks := 0) (by decide) (by decide) all0 (fun _ => sf0) fun v315 T315 h315 L315 A315 K315 q315 => ?_
  obtain ⟨rfl, hh315⟩ := q315
  obtain rfl := hh315.symm
  show Wp pG e below _ T315 (mkF m 403 _ [(.int (Int32.ofNat (c0 :: (32 : Int32) :: (40 : Int32) :: (116 : Int32) :: (111 : Int32) :: (107 : Int32) :: (101 : Int32) :: (110 : Int32) :: (32 : Int32) :: (45 : Int32) :: (dlist n dn ++ [(41 : Int32)])).length))])
  refine f_iconst A315 at_403 (pc' := 404) rfl 2 rfl ?_
  refine f_isub A315 at_404 (pc' := 405) rfl (Int32.ofNat (10 + dn + 1 - 2)) (by rw [hL, show 11 + dn = 10 + dn + 1 by omega]; exact ofn_sub (n := 2) (by omega) (by omega)) ?_
  refine f_istore A315 at_405 (pc' := 407) rfl (L' := #[.val (.long tk), .second, .val (.int i1), .val (.int i2), .val (.int i3), .val (.int ls), .val (.int c0), .val (.int c1), .val (.int c2), .val (.int (1 : Int32)), .val (.ref y), .val (.ref a), .val (.int (1 : Int32)), .val (.long tk), .second, .val (.int (Int32.ofNat dn)), .val (.int (Int32.ofNat (10 + dn + 1 - 2)))]) rfl ?_
  refine f_aload A315 at_407 (pc' := 409) rfl rfl rfl ?_
  refine f_iload A315 at_409 (pc' := 411) rfl rfl ?_
  refine f_iconst A315 at_411 (pc' := 412) rfl 1 rfl ?_
  refine f_iadd A315 at_412 (pc' := 413) rfl (Int32.ofNat (10 + dn)) (by rw [ofn_one (by omega), show 10 + dn + 1 - 2 + 1 = 10 + dn by omega]) ?_
  refine f_callV A315 (a := a) at_413 (pc' := 416) rfl (wd hw 187 rfl) (wd hw 188 rfl) (nfS A315 (wd hw 190 rfl)) (wd hw 190 rfl) (wd hw 189 rfl) (by decide) G.exa pd25 [(.int (Int32.ofNat (10 + dn)))] [] rfl rfl rfl 0 (Nat.le_of_eq rfl) (payCh (W := 0) A315 hw (wd hw 1 rfl) G latS O2 P5 O4 rG3 (10 + dn) (by rw [hL]; omega) rfl (by decide) (by decide)) (kc := 0) (ks := 0) (by decide) (by decide) all0 (fun _ => sf0) fun v316 T316 h316 L316 A316 K316 q316 => ?_
  obtain ⟨e316, hh316⟩ := q316
  obtain rfl := hh316.symm
  rw [hlast] at e316
  subst e316
  show Wp pG e below _ T316 (mkF m 416 _ [(.int (41 : Int32))])
  refine f_bipush A316 at_416 (pc' := 418) rfl 41 rfl ?_
  refine f_icY A316 at_418 (teq (by decide : (41 : Int32) = (41 : Int32))).1 (pc' := 423) (by decide) (by decide) ?_
  exact m_dgt l Z a0 hw tk i1 i2 i3 ls c0 c1 c2 _ _ y a t tk n dn 10 [c0, (32 : Int32), (40 : Int32), (116 : Int32), (111 : Int32), (107 : Int32), (101 : Int32), (110 : Int32), (32 : Int32), (45 : Int32)] zc O2 P5 fm O4 rG3 h0 n0 hEL hlk hret _ _ _ _ A316 Kh G latS hn hq hdn20 rfl (by decide)
set_option maxRecDepth 65536 in
set_option maxHeartbeats 40000000 in
theorem m_tl1p (l : Launch) (Z : State) (a0 : Array Value) (hw : ∀ d ∈ tables_1, d.before a0 Z = true) (tk : Int64) (i1 i2 i3 ls : Int32) (c0 c1 c2 : Int32) (y a t : Addr) (n dn : Nat) (zc : Int32) (O2 : Sta Z Z.heap "java/lang/String" "COMPACT_STRINGS" "Z" (.int zc)) (P5 : ¬ zc = 0) (fm : Value) (O4 : Sta Z Z.heap "jdk/internal/util/Preconditions" "SIOOBE_FORMATTER" "Ljava/util/function/BiFunction;" fm) (rG3 : fm.isRef = true) (h0 : Heap) (n0 : Nat) (hEL : EW Z a0 ELs) {pG : Program} {e : Env} {s : State} {m : MethodId} {below : List Frame} {meth : Method} {cO : Code} (hlk : meth.locks = false) (hret : meth.sig.returnType = ret) (vm : Vm) (T : State) (h : Heap) (locs : List Loc) (A : WS pG l e room_1 s m #[(.long tk), (.int i1), (.int i2), (.int i3), (.int ls)] below meth cO Z ELs n0 x.cls code maxLocals true vm T h locs 32 3392) (Kh : Keep h0 h []) (G0 : Str Z h a t ([c0] ++ [(32 : Int32), (40 : Int32), (116 : Int32), (111 : Int32), (107 : Int32), (101 : Int32), (110 : Int32), (32 : Int32)] ++ ldL tk n ++ [(41 : Int32)])) (r0 : ¬ c0 < 0 ∧ ¬ (255 : Int32) < c0) (r1 : ¬ c1 < 0 ∧ ¬ (255 : Int32) < c1) (r2 : ¬ c2 < 0 ∧ ¬ (255 : Int32) < c2) (hn : n ≤ 2 ^ 63) (hx : (if tk < 0 then tk else -tk) = Jvm.Free.SBG.negL n) (hdn : Jvm.Free.SBG.digitsL n = dn) (hdn0 : 1 ≤ dn) (hdn20 : dn ≤ 20) (hneg : ¬ tk < 0) :
    Wp pG e below (PW s Z ELs n0 h0 [] (fun v h => v = some (.int 1)) room_1.cells room_1.slots) T (mkF m 150 #[.val (.long tk), .second, .val (.int i1), .val (.int i2), .val (.int i3), .val (.int ls), .val (.int c0), .val (.int c1), .val (.int c2), .val (.int (1 : Int32)), .val (.ref y), .val (.ref a), .unset, .unset, .unset, .unset, .unset] []) := by
  have G : Str Z h a t (c0 :: (32 : Int32) :: (40 : Int32) :: (116 : Int32) :: (111 : Int32) :: (107 : Int32) :: (101 : Int32) :: (110 : Int32) :: (32 : Int32) :: (dlist n dn ++ [(41 : Int32)])) := by
    rw [ldL, if_neg hneg, hdn] at G0; exact G0
  have hL : (c0 :: (32 : Int32) :: (40 : Int32) :: (116 : Int32) :: (111 : Int32) :: (107 : Int32) :: (101 : Int32) :: (110 : Int32) :: (32 : Int32) :: (dlist n dn ++ [(41 : Int32)])).length = 10 + dn := by
    show ([c0, (32 : Int32), (40 : Int32), (116 : Int32), (111 : Int32), (107 : Int32), (101 : Int32), (110 : Int32), (32 : Int32)] ++ (dlist n dn ++ [(41 : Int32)])).length = _
    rw [List.length_append, List.length_append, dlist_len]; show 9 + (dn + 1) = _; omega
  have hlast : (c0 :: (32 : Int32) :: (40 : Int32) :: (116 : Int32) :: (111 : Int32) :: (107 : Int32) :: (101 : Int32) :: (110 : Int32) :: (32 : Int32) :: (dlist n dn ++ [(41 : Int32)])).getD (9 + dn) 0 = 41 := getD_last (A := [c0, (32 : Int32), (40 : Int32), (116 : Int32), (111 : Int32), (107 : Int32), (101 : Int32), (110 : Int32), (32 : Int32)]) (D := dlist n dn) (by rw [dlist_len]; rfl)
  have hq : -tk = Jvm.Free.SBG.negL n := by rw [if_neg hneg] at hx; exact hx
  have latS : ∀ c ∈ (c0 :: (32 : Int32) :: (40 : Int32) :: (116 : Int32) :: (111 : Int32) :: (107 : Int32) :: (101 : Int32) :: (110 : Int32) :: (32 : Int32) :: (dlist n dn ++ [(41 : Int32)])), ¬ (255 : Int32) < c := lat2 (lc r0 (lc (by decide) (lc (by decide) (lc (by decide) (lc (by decide) (lc (by decide) (lc (by decide) (lc (by decide) (lc (by decide) (la dlist_rng (lc (by decide) ln)))))))))))
  have hlt : ¬ lcmpW tk 0 < 0 := fun z => hneg ((lw_lt _ _).mp z)
  refine f_lloadN A at_150 (pc' := 151) rfl rfl ?_
  refine f_lconst A at_151 (pc' := 152) rfl 0 rfl ?_
  refine f_lcmp A at_152 (pc' := 153) rfl (lcmpW tk (0 : Int64)) rfl ?_
  refine f_ifY A at_153 ((if0 _ _).trans (flt hlt).2.1) (pc' := 160) (by decide) (by decide) ?_
  refine f_iconst A at_160 (pc' := 161) rfl 0 rfl ?_
  refine f_istore A at_161 (pc' := 163) rfl (L' := #[.val (.long tk), .second, .val (.int i1), .val (.int i2), .val (.int i3), .val (.int ls), .val (.int c0), .val (.int c1), .val (.int c2), .val (.int (1 : Int32)), .val (.ref y), .val (.ref a), .val (.int (0 : Int32)), .unset, .unset, .unset, .unset]) rfl ?_
  refine f_lloadN A at_163 (pc' := 164) rfl rfl ?_
  refine f_lconst A at_164 (pc' := 165) rfl 0 rfl ?_
  refine f_lcmp A at_165 (pc' := 166) rfl (lcmpW tk (0 : Int64)) rfl ?_
  refine f_ifY A at_166 ((if0 _ _).trans (flt hlt).2.1) (pc' := 173) (by decide) (by decide) ?_
  refine f_lloadN A at_173 (pc' := 174) rfl rfl ?_
  refine f_lneg A at_174 (pc' := 175) rfl (-tk) rfl ?_
  refine f_lstore A at_175 (pc' := 177) rfl (L' := #[.val (.long tk), .second, .val (.int i1), .val (.int i2), .val (.int i3), .val (.int ls), .val (.int c0), .val (.int c1), .val (.int c2), .val (.int (1 : Int32)), .val (.ref y), .val (.ref a), .val (.int (0 : Int32)), .val (.long (-tk)), .second, .unset, .unset]) rfl ?_
  refine f_lload A at_177 (pc' := 179) rfl rfl ?_
  refine f_callS A at_179 (pc' := 182) rfl (wd hw 181 rfl) (wd hw 182 rfl) (wd hw 183 rfl) (wd hw 184 rfl) (by decide) pd18 [(.long (-tk))] [] rfl rfl rfl 0 (Nat.le_of_eq rfl) (CN.pay (W := 0) A (m_dgs l Z a0 hw (-tk) n h n0 A.old hn hq) (wd hw 184 rfl) (wd hw 183 rfl) (by decide) (by decide)) (kc := 0) (ks := 0) (by decide) (by decide) all0 (fun _ => sf0) fun v317 T317 h317 L317 A317 K317 q317 => ?_
  obtain ⟨rfl, hh317⟩ := q317
  obtain rfl := hh317.symm
  rw [hdn]
  show Wp pG e below _ T317 (mkF m 182 _ [(.int (Int32.ofNat dn))])
  refine f_istore A317 at_182 (pc' := 184) rfl (L' := #[.val (.long tk), .second, .val (.int i1), .val (.int i2), .val (.int i3), .val (.int ls), .val (.int c0), .val (.int c1), .val (.int c2), .val (.int (1 : Int32)), .val (.ref y), .val (.ref a), .val (.int (0 : Int32)), .val (.long (-tk)), .second, .val (.int (Int32.ofNat dn)), .unset]) rfl ?_
  refine f_aload A317 at_184 (pc' := 186) rfl rfl rfl ?_
  refine f_callV A317 (a := a) at_186 (pc' := 189) rfl (wd hw 186 rfl) (wd hw 75 rfl) (nfS A317 (wd hw 77 rfl)) (wd hw 77 rfl) (wd hw 76 rfl) (by decide) G.exa pd5 [] [] rfl rfl rfl 0 (Nat.le_of_eq rfl) (payLen (W := 0) A317 hw (wd hw 1 rfl) G O2 P5 (by decide) (by decide)) (kc := 0) (ks := 0) (by decide) (by decide) all0 (fun _ => sf0) fun v318 T318 h318 L318 A318 K318 q318 => ?_
  obtain ⟨rfl, hh318⟩ := q318
  obtain rfl := hh318.symm
  show Wp pG e below _ T318 (mkF m 189 _ [(.int (Int32.ofNat (c0 :: (32 : Int32) :: (40 : Int32) :: (116 : Int32) :: (111 : Int32) :: (107 : Int32) :: (101 : Int32) :: (110 : Int32) :: (32 : Int32) :: (dlist n dn ++ [(41 : Int32)])).length))])
  refine f_iload A318 at_189 (pc' := 191) rfl rfl ?_
  refine f_bipush A318 at_191 (pc' := 193) rfl 9 rfl ?_
  refine f_iadd A318 at_193 (pc' := 194) rfl (10 : Int32) (by decide) ?_
  refine f_iload A318 at_194 (pc' := 196) rfl rfl ?_
  refine f_iadd A318 at_196 (pc' := 197) rfl (10 : Int32) (by decide) ?_
  refine f_iload A318 at_197 (pc' := 199) rfl rfl ?_
  refine f_iadd A318 at_199 (pc' := 200) rfl ((10 : Int32) + (Int32.ofNat dn)) rfl ?_
  refine f_icY A318 at_200 (teq (by rw [hL]; exact (ofn_add (i := 10) (n := dn) (by omega)).symm)).1 (pc' := 205) (by decide) (by decide) ?_
  refine f_iload A318 at_205 (pc' := 207) rfl rfl ?_
  refine f_ifN A318 at_207 ((if0 _ _).trans (tlt (by decide : (0 : Int32) < (1 : Int32))).2.2.2) (pc' := 210) rfl ?_
  refine f_aload A318 at_210 (pc' := 212) rfl rfl rfl ?_
  refine f_iconst A318 at_212 (pc' := 213) rfl 0 rfl ?_
  refine f_callV A318 (a := a) at_213 (pc' := 216) rfl (wd hw 187 rfl) (wd hw 188 rfl) (nfS A318 (wd hw 190 rfl)) (wd hw 190 rfl) (wd hw 189 rfl) (by decide) G.exa pd25 [(.int (0 : Int32))] [] rfl rfl rfl 0 (Nat.le_of_eq rfl) (payCh (W := 0) A318 hw (wd hw 1 rfl) G latS O2 P5 O4 rG3 0 (by rw [hL]; omega) rfl (by decide) (by decide)) (kc := 0) (ks := 0) (by decide) (by decide) all0 (fun _ => sf0) fun v319 T319 h319 L319 A319 K319 q319 => ?_
  obtain ⟨rfl, hh319⟩ := q319
  obtain rfl := hh319.symm
  show Wp pG e below _ T319 (mkF m 216 _ [(.int c0)])
  refine f_iload A319 at_216 (pc' := 218) rfl rfl ?_
  refine f_icY A319 at_218 (teq rfl).1 (pc' := 223) (by decide) (by decide) ?_
  refine f_iload A319 at_223 (pc' := 225) rfl rfl ?_
  refine f_iconst A319 at_225 (pc' := 226) rfl 1 rfl ?_
  refine f_icY A319 at_226 (flt (by decide : ¬ (1 : Int32) < (1 : Int32))).2.2.2 (pc' := 242) (by decide) (by decide) ?_
  refine f_iload A319 at_242 (pc' := 244) rfl rfl ?_
  refine f_iconst A319 at_244 (pc' := 245) rfl 2 rfl ?_
  refine f_icY A319 at_245 (flt (by decide : ¬ (2 : Int32) < (1 : Int32))).2.2.2 (pc' := 261) (by decide) (by decide) ?_
  refine f_aload A319 at_261 (pc' := 263) rfl rfl rfl ?_
  refine f_iload A319 at_263 (pc' := 265) rfl rfl ?_
  refine f_callV A319 (a := a) at_265 (pc' := 268) rfl (wd hw 187 rfl) (wd hw 188 rfl) (nfS A319 (wd hw 190 rfl)) (wd hw 190 rfl) (wd hw 189 rfl) (by decide) G.exa pd25 [(.int (1 : Int32))] [] rfl rfl rfl 0 (Nat.le_of_eq rfl) (payCh (W := 0) A319 hw (wd hw 1 rfl) G latS O2 P5 O4 rG3 1 (by rw [hL]; omega) rfl (by decide) (by decide)) (kc := 0) (ks := 0) (by decide) (by decide) all0 (fun _ => sf0) fun v320 T320 h320 L320 A320 K320 q320 => ?_
  obtain ⟨rfl, hh320⟩ := q320
  obtain rfl := hh320.symm
  show Wp pG e below _ T320 (mkF m 268 _ [(.int (32 : Int32))])
  refine f_bipush A320 at_268 (pc' := 270) rfl 32 rfl ?_
  refine f_icN A320 at_270 (teq (by decide : (32 : Int32) = (32 : Int32))).2 (pc' := 273) rfl ?_
  refine f_aload A320 at_273 (pc' := 275) rfl rfl rfl ?_
  refine f_iload A320 at_275 (pc' := 277) rfl rfl ?_
  refine f_iconst A320 at_277 (pc' := 278) rfl 1 rfl ?_
  refine f_iadd A320 at_278 (pc' := 279) rfl (2 : Int32) (by decide) ?_
  refine f_callV A320 (a := a) at_279 (pc' := 282) rfl (wd hw 187 rfl) (wd hw 188 rfl) (nfS A320 (wd hw 190 rfl)) (wd hw 190 rfl) (wd hw 189 rfl) (by decide) G.exa pd25 [(.int (2 : Int32))] [] rfl rfl rfl 0 (Nat.le_of_eq rfl) (payCh (W := 0) A320 hw (wd hw 1 rfl) G latS O2 P5 O4 rG3 2 (by rw [hL]; omega) rfl (by decide) (by decide)) (kc := 0) (ks := 0) (by decide) (by decide) all0 (fun _ => sf0) fun v321 T321 h321 L321 A321 K321 q321 => ?_
  obtain ⟨rfl, hh321⟩ := q321
  obtain rfl := hh321.symm
  show Wp pG e below _ T321 (mkF m 282 _ [(.int (40 : Int32))])
  refine f_bipush A321 at_282 (pc' := 284) rfl 40 rfl ?_
  refine f_icN A321 at_284 (teq (by decide : (40 : Int32) = (40 : Int32))).2 (pc' := 287) rfl ?_
  refine f_aload A321 at_287 (pc' := 289) rfl rfl rfl ?_
  refine f_iload A321 at_289 (pc' := 291) rfl rfl ?_
  refine f_iconst A321 at_291 (pc' := 292) rfl 2 rfl ?_
  refine f_iadd A321 at_292 (pc' := 293) rfl (3 : Int32) (by decide) ?_
  refine f_callV A321 (a := a) at_293 (pc' := 296) rfl (wd hw 187 rfl) (wd hw 188 rfl) (nfS A321 (wd hw 190 rfl)) (wd hw 190 rfl) (wd hw 189 rfl) (by decide) G.exa pd25 [(.int (3 : Int32))] [] rfl rfl rfl 0 (Nat.le_of_eq rfl) (payCh (W := 0) A321 hw (wd hw 1 rfl) G latS O2 P5 O4 rG3 3 (by rw [hL]; omega) rfl (by decide) (by decide)) (kc := 0) (ks := 0) (by decide) (by decide) all0 (fun _ => sf0) fun v322 T322 h322 L322 A322 K322 q322 => ?_
  obtain ⟨rfl, hh322⟩ := q322
  obtain rfl := hh322.symm
  show Wp pG e below _ T322 (mkF m 296 _ [(.int (116 : Int32))])
  refine f_bipush A322 at_296 (pc' := 298) rfl 116 rfl ?_
  refine f_icN A322 at_298 (teq (by decide : (116 : Int32) = (116 : Int32))).2 (pc' := 301) rfl ?_
  refine f_aload A322 at_301 (pc' := 303) rfl rfl rfl ?_
  refine f_iload A322 at_303 (pc' := 305) rfl rfl ?_
  refine f_iconst A322 at_305 (pc' := 306) rfl 3 rfl ?_
  refine f_iadd A322 at_306 (pc' := 307) rfl (4 : Int32) (by decide) ?_
  refine f_callV A322 (a := a) at_307 (pc' := 310) rfl (wd hw 187 rfl) (wd hw 188 rfl) (nfS A322 (wd hw 190 rfl)) (wd hw 190 rfl) (wd hw 189 rfl) (by decide) G.exa pd25 [(.int (4 : Int32))] [] rfl rfl rfl 0 (Nat.le_of_eq rfl) (payCh (W := 0) A322 hw (wd hw 1 rfl) G latS O2 P5 O4 rG3 4 (by rw [hL]; omega) rfl (by decide) (by decide)) (kc := 0) (ks := 0) (by decide) (by decide) all0 (fun _ => sf0) fun v323 T323 h323 L323 A323 K323 q323 => ?_
  obtain ⟨rfl, hh323⟩ := q323
  obtain rfl := hh323.symm
  show Wp pG e below _ T323 (mkF m 310 _ [(.int (111 : Int32))])
  refine f_bipush A323 at_310 (pc' := 312) rfl 111 rfl ?_
  refine f_icN A323 at_312 (teq (by decide : (111 : Int32) = (111 : Int32))).2 (pc' := 315) rfl ?_
  refine f_aload A323 at_315 (pc' := 317) rfl rfl rfl ?_
  refine f_iload A323 at_317 (pc' := 319) rfl rfl ?_
  refine f_iconst A323 at_319 (pc' := 320) rfl 4 rfl ?_
  refine f_iadd A323 at_320 (pc' := 321) rfl (5 : Int32) (by decide) ?_
  refine f_callV A323 (a := a) at_321 (pc' := 324) rfl (wd hw 187 rfl) (wd hw 188 rfl) (nfS A323 (wd hw 190 rfl)) (wd hw 190 rfl) (wd hw 189 rfl) (by decide) G.exa pd25 [(.int (5 : Int32))] [] rfl rfl rfl 0 (Nat.le_of_eq rfl) (payCh (W := 0) A323 hw (wd hw 1 rfl) G latS O2 P5 O4 rG3 5 (by rw [hL]; omega) rfl (by decide) (by decide)) (kc := 0) (ks := 0) (by decide) (by decide) all0 (fun _ => sf0) fun v324 T324 h324 L324 A324 K324 q324 => ?_
  obtain ⟨rfl, hh324⟩ := q324
  obtain rfl := hh324.symm
  show Wp pG e below _ T324 (mkF m 324 _ [(.int (107 : Int32))])
  refine f_bipush A324 at_324 (pc' := 326) rfl 107 rfl ?_
  refine f_icN A324 at_326 (teq (by decide : (107 : Int32) = (107 : Int32))).2 (pc' := 329) rfl ?_
  refine f_aload A324 at_329 (pc' := 331) rfl rfl rfl ?_
  refine f_iload A324 at_331 (pc' := 333) rfl rfl ?_
  refine f_iconst A324 at_333 (pc' := 334) rfl 5 rfl ?_
  refine f_iadd A324 at_334 (pc' := 335) rfl (6 : Int32) (by decide) ?_
  refine f_callV A324 (a := a) at_335 (pc' := 338) rfl (wd hw 187 rfl) (wd hw 188 rfl) (nfS A324 (wd hw 190 rfl)) (wd hw 190 rfl) (wd hw 189 rfl) (by decide) G.exa pd25 [(.int (6 : Int32))] [] rfl rfl rfl 0 (Nat.le_of_eq rfl) (payCh (W := 0) A324 hw (wd hw 1 rfl) G latS O2 P5 O4 rG3 6 (by rw [hL]; omega) rfl (by decide) (by decide)) (kc := 0) (ks := 0) (by decide) (by decide) all0 (fun _ => sf0) fun v325 T325 h325 L325 A325 K325 q325 => ?_
  obtain ⟨rfl, hh325⟩ := q325
  obtain rfl := hh325.symm
  show Wp pG e below _ T325 (mkF m 338 _ [(.int (101 : Int32))])
  refine f_bipush A325 at_338 (pc' := 340) rfl 101 rfl ?_
  refine f_icN A325 at_340 (teq (by decide : (101 : Int32) = (101 : Int32))).2 (pc' := 343) rfl ?_
  refine f_aload A325 at_343 (pc' := 345) rfl rfl rfl ?_
  refine f_iload A325 at_345 (pc' := 347) rfl rfl ?_
  refine f_bipush A325 at_347 (pc' := 349) rfl 6 rfl ?_
  refine f_iadd A325 at_349 (pc' := 350) rfl (7 : Int32) (by decide) ?_
  refine f_callV A325 (a := a) at_350 (pc' := 353) rfl (wd hw 187 rfl) (wd hw 188 rfl) (nfS A325 (wd hw 190 rfl)) (wd hw 190 rfl) (wd hw 189 rfl) (by decide) G.exa pd25 [(.int (7 : Int32))] [] rfl rfl rfl 0 (Nat.le_of_eq rfl) (payCh (W := 0) A325 hw (wd hw 1 rfl) G latS O2 P5 O4 rG3 7 (by rw [hL]; omega) rfl (by decide) (by decide)) (kc := 0) (ks := 0) (by decide) (by decide) all0 (fun _ => sf0) fun v326 T326 h326 L326 A326 K326 q326 => ?_
  obtain ⟨rfl, hh326⟩ := q326
  obtain rfl := hh326.symm
  show Wp pG e below _ T326 (mkF m 353 _ [(.int (110 : Int32))])
  refine f_bipush A326 at_353 (pc' := 355) rfl 110 rfl ?_
  refine f_icN A326 at_355 (teq (by decide : (110 : Int32) = (110 : Int32))).2 (pc' := 358) rfl ?_
  refine f_aload A326 at_358 (pc' := 360) rfl rfl rfl ?_
  refine f_iload A326 at_360 (pc' := 362) rfl rfl ?_
  refine f_bipush A326 at_362 (pc' := 364) rfl 7 rfl ?_
  refine f_iadd A326 at_364 (pc' := 365) rfl (8 : Int32) (by decide) ?_
  refine f_callV A326 (a := a) at_365 (pc' := 368) rfl (wd hw 187 rfl) (wd hw 188 rfl) (nfS A326 (wd hw 190 rfl)) (wd hw 190 rfl) (wd hw 189 rfl) (by decide) G.exa pd25 [(.int (8 : Int32))] [] rfl rfl rfl 0 (Nat.le_of_eq rfl) (payCh (W := 0) A326 hw (wd hw 1 rfl) G latS O2 P5 O4 rG3 8 (by rw [hL]; omega) rfl (by decide) (by decide)) (kc := 0) (ks := 0) (by decide) (by decide) all0 (fun _ => sf0) fun v327 T327 h327 L327 A327 K327 q327 => ?_
  obtain ⟨rfl, hh327⟩ := q327
  obtain rfl := hh327.symm
  show Wp pG e below _ T327 (mkF m 368 _ [(.int (32 : Int32))])
  refine f_bipush A327 at_368 (pc' := 370) rfl 32 rfl ?_
  refine f_icY A327 at_370 (teq (by decide : (32 : Int32) = (32 : Int32))).1 (pc' := 375) (by decide) (by decide) ?_
  refine f_iload A327 at_375 (pc' := 377) rfl rfl ?_
  refine f_iconst A327 at_377 (pc' := 378) rfl 1 rfl ?_
  refine f_icY A327 at_378 (feq (by decide : ¬ (0 : Int32) = (1 : Int32))).2 (pc' := 398) (by decide) (by decide) ?_
  refine f_aload A327 at_398 (pc' := 400) rfl rfl rfl ?_
  refine f_callV A327 (a := a) at_400 (pc' := 403) rfl (wd hw 186 rfl) (wd hw 75 rfl) (nfS A327 (wd hw 77 rfl)) (wd hw 77 rfl) (wd hw 76 rfl) (by decide) G.exa pd5 [] [] rfl rfl rfl 0 (Nat.le_of_eq rfl) (payLen (W := 0) A327 hw (wd hw 1 rfl) G O2 P5 (by decide) (by decide)) (kc := 0) (ks := 0) (by decide) (by decide) all0 (fun _ => sf0) fun v328 T328 h328 L328 A328 K328 q328 => ?_
  obtain ⟨rfl, hh328⟩ := q328
  obtain rfl := hh328.symm
  show Wp pG e below _ T328 (mkF m 403 _ [(.int (Int32.ofNat (c0 :: (32 : Int32) :: (40 : Int32) :: (116 : Int32) :: (111 : Int32) :: (107 : Int32) :: (101 : Int32) :: (110 : Int32) :: (32 : Int32) :: (dlist n dn ++ [(41 : Int32)])).length))])
  refine f_iconst A328 at_403 (pc' := 404) rfl 2 rfl ?_
  refine f_isub A328 at_404 (pc' := 405) rfl (Int32.ofNat (9 + dn + 1 - 2)) (by rw [hL, show 10 + dn = 9 + dn + 1 by omega]; exact ofn_sub (n := 2) (by omega) (by omega)) ?_
  refine f_istore A328 at_405 (pc' := 407) rfl (L' := #[.val (.long tk), .second, .val (.int i1), .val (.int i2), .val (.int i3), .val (.int ls), .val (.int c0), .val (.int c1), .val (.int c2), .val (.int (1 : Int32)), .val (.ref y), .val (.ref a), .val (.int (0 : Int32)), .val (.long (-tk)), .second, .val (.int (Int32.ofNat dn)), .val (.int (Int32.ofNat (9 + dn + 1 - 2)))]) rfl ?_
  refine f_aload A328 at_407 (pc' := 409) rfl rfl rfl ?_
  refine f_iload A328 at_409 (pc' := 411) rfl rfl ?_
  refine f_iconst A328 at_411 (pc' := 412) rfl 1 rfl ?_
  refine f_iadd A328 at_412 (pc' := 413) rfl (Int32.ofNat (9 + dn)) (by rw [ofn_one (by omega), show 9 + dn + 1 - 2 + 1 = 9 + dn by omega]) ?_
  refine f_callV A328 (a := a) at_413 (pc' := 416) rfl (wd hw 187 rfl) (wd hw 188 rfl) (nfS A328 (wd hw 190 rfl)) (wd hw 190 rfl) (wd hw 189 rfl) (by decide) G.exa pd25 [(.int (Int32.ofNat (9 + dn)))] [] rfl rfl rfl 0 (Nat.le_of_eq rfl) (payCh (W := 0) A328 hw (wd hw 1 rfl) G latS O2 P5 O4 rG3 (9 + dn) (by rw [hL]; omega) rfl (by decide) (by decide)) (kc := 0) (ks := 0) (by decide) (by decide) all0 (fun _ => sf0) fun v329 T329 h329 L329 A329 K329 q329 => ?_
  obtain ⟨e329, hh329⟩ := q329
  obtain rfl := hh329.symm
  rw [hlast] at e329
  subst e329
  show Wp pG e below _ T329 (mkF m 416 _ [(.int (41 : Int32))])
  refine f_bipush A329 at_416 (pc' := 418) rfl 41 rfl ?_
  refine f_icY A329 at_418 (teq (by decide : (41 : Int32) = (41 : Int32))).1 (pc' := 423) (by decide) (by decide) ?_
  exact m_dgt l Z a0 hw tk i1 i2 i3 ls c0 c1 c2 _ _ y a t (-tk) n dn 9 [c0, (32 : Int32), (40 : Int32), (116 : Int32), (111 : Int32), (107 : Int32), (101 : Int32), (110 : Int32), (32 : Int32)] zc O2 P5 fm O4 rG3 h0 n0 hEL hlk hret _ _ _ _ A329 Kh G latS hn hq hdn20 rfl (by decide)
set_option maxRecDepth 65536 in
set_option maxHeartbeats 40000000 in
theorem m_tl2n (l : Launch) (Z : State) (a0 : Array Value) (hw : ∀ d ∈ tables_1, d.before a0 Z = true) (tk : Int64) (i1 i2 i3 ls : Int32) (c0 c1 c2 : Int32) (y a t : Addr) (n dn : Nat) (zc : Int32) (O2 : Sta Z Z.heap "java/lang/String" "COMPACT_STRINGS" "Z" (.int zc)) (P5 : ¬ zc = 0) (fm : Value) (O4 : Sta Z Z.heap "jdk/internal/util/Preconditions" "SIOOBE_FORMATTER" "Ljava/util/function/BiFunction;" fm) (rG3 : fm.isRef = true) (h0 : Heap) (n0 : Nat) (hEL : EW Z a0 ELs) {pG : Program} {e : Env} {s : State} {m : MethodId} {below : List Frame} {meth : Method} {cO : Code} (hlk : meth.locks = false) (hret : meth.sig.returnType = ret) (vm : Vm) (T : State) (h : Heap) (locs : List Loc) (A : WS pG l e room_1 s m #[(.long tk), (.int i1), (.int i2), (.int i3), (.int ls)] below meth cO Z ELs n0 x.cls code maxLocals true vm T h locs 32 3392) (Kh : Keep h0 h []) (G0 : Str Z h a t ([c0, c1] ++ [(32 : Int32), (40 : Int32), (116 : Int32), (111 : Int32), (107 : Int32), (101 : Int32), (110 : Int32), (32 : Int32)] ++ ldL tk n ++ [(41 : Int32)])) (r0 : ¬ c0 < 0 ∧ ¬ (255 : Int32) < c0) (r1 : ¬ c1 < 0 ∧ ¬ (255 : Int32) < c1) (r2 : ¬ c2 < 0 ∧ ¬ (255 : Int32) < c2) (hn : n ≤ 2 ^ 63) (hx : (if tk < 0 then tk else -tk) = Jvm.Free.SBG.negL n) (hdn : Jvm.Free.SBG.digitsL n = dn) (hdn0 : 1 ≤ dn) (hdn20 : dn ≤ 20) (hneg : tk < 0) :
    Wp pG e below (PW s Z ELs n0 h0 [] (fun v h => v = some (.int 1)) room_1.cells room_1.slots) T (mkF m 150 #[.val (.long tk), .second, .val (.int i1), .val (.int i2), .val (.int i3), .val (.int ls), .val (.int c0), .val (.int c1), .val (.int c2), .val (.int (2 : Int32)), .val (.ref y), .val (.ref a), .unset, .unset, .unset, .unset, .unset] []) := by
  have G : Str Z h a t (c0 :: c1 :: (32 : Int32) :: (40 : Int32) :: (116 : Int32) :: (111 : Int32) :: (107 : Int32) :: (101 : Int32) :: (110 : Int32) :: (32 : Int32) :: (45 : Int32) :: (dlist n dn ++ [(41 : Int32)])) := by
    rw [ldL, if_pos hneg, hdn] at G0; exact G0
  have hL : (c0 :: c1 :: (32 : Int32) :: (40 : Int32) :: (116 : Int32) :: (111 : Int32) :: (107 : Int32) :: (101 : Int32) :: (110 : Int32) :: (32 : Int32) :: (45 : Int32) :: (dlist n dn ++ [(41 : Int32)])).length = 12 + dn := by
    show ([c0, c1, (32 : Int32), (40 : Int32), (116 : Int32), (111 : Int32), (107 : Int32), (101 : Int32), (110 : Int32), (32 : Int32), (45 : Int32)] ++ (dlist n dn ++ [(41 : Int32)])).length = _
    rw [List.length_append, List.length_append, dlist_len]; show 11 + (dn + 1) = _; omega
  have hlast : (c0 :: c1 :: (32 : Int32) :: (40 : Int32) :: (116 : Int32) :: (111 : Int32) :: (107 : Int32) :: (101 : Int32) :: (110 : Int32) :: (32 : Int32) :: (45 : Int32) :: (dlist n dn ++ [(41 : Int32)])).getD (11 + dn) 0 = 41 := getD_last (A := [c0, c1, (32 : Int32), (40 : Int32), (116 : Int32), (111 : Int32), (107 : Int32), (101 : Int32), (110 : Int32), (32 : Int32), (45 : Int32)]) (D := dlist n dn) (by rw [dlist_len]; rfl)
  have hq : tk = Jvm.Free.SBG.negL n := by rw [if_pos hneg] at hx; exact hx
  have latS : ∀ c ∈ (c0 :: c1 :: (32 : Int32) :: (40 : Int32) :: (116 : Int32) :: (111 : Int32) :: (107 : Int32) :: (101 : Int32) :: (110 : Int32) :: (32 : Int32) :: (45 : Int32) :: (dlist n dn ++ [(41 : Int32)])), ¬ (255 : Int32) < c := lat2 (lc r0 (lc r1 (lc (by decide) (lc (by decide) (lc (by decide) (lc (by decide) (lc (by decide) (lc (by decide) (lc (by decide) (lc (by decide) (lc (by decide) (la dlist_rng (lc (by decide) ln)))))))))))))
  have hlt : lcmpW tk 0 < 0 := (lw_lt _ _).mpr hneg
  refine f_lloadN A at_150 (pc' := 151) rfl rfl ?_
  refine f_lconst A at_151 (pc' := 152) rfl 0 rfl ?_
  refine f_lcmp A at_152 (pc' := 153) rfl (lcmpW tk (0 : Int64)) rfl ?_
  refine f_ifN A at_153 ((if0 _ _).trans (tlt hlt).2.1) (pc' := 156) rfl ?_
  refine f_iconst A at_156 (pc' := 157) rfl 1 rfl ?_
  refine f_goto A at_157 (pc' := 161) (by decide) (by decide) ?_
  refine f_istore A at_161 (pc' := 163) rfl (L' := #[.val (.long tk), .second, .val (.int i1), .val (.int i2), .val (.int i3), .val (.int ls), .val (.int c0), .val (.int c1), .val (.int c2), .val (.int (2 : Int32)), .val (.ref y), .val (.ref a), .val (.int (1 : Int32)), .unset, .unset, .unset, .unset]) rfl ?_
  refine f_lloadN A at_163 (pc' := 164) rfl rfl ?_
  refine f_lconst A at_164 (pc' := 165) rfl 0 rfl ?_
  refine f_lcmp A at_165 (pc' := 166) rfl (lcmpW tk (0 : Int64)) rfl ?_
  refine f_ifN A at_166 ((if0 _ _).trans (tlt hlt).2.1) (pc' := 169) rfl ?_
  refine f_lloadN A at_169 (pc' := 170) rfl rfl ?_
  refine f_goto A at_170 (pc' := 175) (by decide) (by decide) ?_
  refine f_lstore A at_175 (pc' := 177) rfl (L' := #[.val (.long tk), .second, .val (.int i1), .val (.int i2), .val (.int i3), .val (.int ls), .val (.int c0), .val (.int c1), .val (.int c2), .val (.int (2 : Int32)), .val (.ref y), .val (.ref a), .val (.int (1 : Int32)), .val (.long tk), .second, .unset, .unset]) rfl ?_
  refine f_lload A at_177 (pc' := 179) rfl rfl ?_
  refine f_callS A at_179 (pc' := 182) rfl (wd hw 181 rfl) (wd hw 182 rfl) (wd hw 183 rfl) (wd hw 184 rfl) (by decide) pd18 [(.long tk)] [] rfl rfl rfl 0 (Nat.le_of_eq rfl) (CN.pay (W := 0) A (m_dgs l Z a0 hw tk n h n0 A.old hn hq) (wd hw 184 rfl) (wd hw 183 rfl) (by decide) (by decide)) (kc := 0) (ks := 0) (by decide) (by decide) all0 (fun _ => sf0) fun v330 T330 h330 L330 A330 K330 q330 => ?_
  obtain ⟨rfl, hh330⟩ := q330
  obtain rfl := hh330.symm
  rw [hdn]
  show Wp pG e below _ T330 (mkF m 182 _ [(.int (Int32.ofNat dn))])
  refine f_istore A330 at_182 (pc' := 184) rfl (L' := #[.val (.long tk), .second, .val (.int i1), .val (.int i2), .val (.int i3), .val (.int ls), .val (.int c0), .val (.int c1), .val (.int c2), .val (.int (2 : Int32)), .val (.ref y), .val (.ref a), .val (.int (1 : Int32)), .val (.long tk), .second, .val (.int (Int32.ofNat dn)), .unset]) rfl ?_
  refine f_aload A330 at_184 (pc' := 186) rfl rfl rfl ?_
  refine f_callV A330 (a := a) at_186 (pc' := 189) rfl (wd hw 186 rfl) (wd hw 75 rfl) (nfS A330 (wd hw 77 rfl)) (wd hw 77 rfl) (wd hw 76 rfl) (by decide) G.exa pd5 [] [] rfl rfl rfl 0 (Nat.le_of_eq rfl) (payLen (W := 0) A330 hw (wd hw 1 rfl) G O2 P5 (by decide) (by decide)) (kc := 0) (ks := 0) (by decide) (by decide) all0 (fun _ => sf0) fun v331 T331 h331 L331 A331 K331 q331 => ?_
  obtain ⟨rfl, hh331⟩ := q331
  obtain rfl := hh331.symm
  show Wp pG e below _ T331 (mkF m 189 _ [(.int (Int32.ofNat (c0 :: c1 :: (32 : Int32) :: (40 : Int32) :: (116 : Int32) :: (111 : Int32) :: (107 : Int32) :: (101 : Int32) :: (110 : Int32) :: (32 : Int32) :: (45 : Int32) :: (dlist n dn ++ [(41 : Int32)])).length))])
  refine f_iload A331 at_189 (pc' := 191) rfl rfl ?_
  refine f_bipush A331 at_191 (pc' := 193) rfl 9 rfl ?_
  refine f_iadd A331 at_193 (pc' := 194) rfl (11 : Int32) (by decide) ?_
  refine f_iload A331 at_194 (pc' := 196) rfl rfl ?_
  refine f_iadd A331 at_196 (pc' := 197) rfl (12 : Int32) (by decide) ?_
  refine f_iload A331 at_197 (pc' := 199) rfl rfl ?_
  refine f_iadd A331 at_199 (pc' := 200) rfl ((12 : Int32) + (Int32.ofNat dn)) rfl ?_
  refine f_icY A331 at_200 (teq (by rw [hL]; exact (ofn_add (i := 12) (n := dn) (by omega)).symm)).1 (pc' := 205) (by decide) (by decide) ?_
  refine f_iload A331 at_205 (pc' := 207) rfl rfl ?_
  refine f_ifN A331 at_207 ((if0 _ _).trans (tlt (by decide : (0 : Int32) < (2 : Int32))).2.2.2) (pc' := 210) rfl ?_
  refine f_aload A331 at_210 (pc' := 212) rfl rfl rfl ?_
  refine f_iconst A331 at_212 (pc' := 213) rfl 0 rfl ?_
  refine f_callV A331 (a := a) at_213 (pc' := 216) rfl (wd hw 187 rfl) (wd hw 188 rfl) (nfS A331 (wd hw 190 rfl)) (wd hw 190 rfl) (wd hw 189 rfl) (by decide) G.exa pd25 [(.int (0 : Int32))] [] rfl rfl rfl 0 (Nat.le_of_eq rfl) (payCh (W := 0) A331 hw (wd hw 1 rfl) G latS O2 P5 O4 rG3 0 (by rw [hL]; omega) rfl (by decide) (by decide)) (kc := 0) (ks := 0) (by decide) (by decide) all0 (fun _ => sf0) fun v332 T332 h332 L332 A332 K332 q332 => ?_
  obtain ⟨rfl, hh332⟩ := q332
  obtain rfl := hh332.symm
  show Wp pG e below _ T332 (mkF m 216 _ [(.int c0)])
  refine f_iload A332 at_216 (pc' := 218) rfl rfl ?_
  refine f_icY A332 at_218 (teq rfl).1 (pc' := 223) (by decide) (by decide) ?_
  refine f_iload A332 at_223 (pc' := 225) rfl rfl ?_
  refine f_iconst A332 at_225 (pc' := 226) rfl 1 rfl ?_
  refine f_icN A332 at_226 (tlt (by decide : (1 : Int32) < (2 : Int32))).2.2.2 (pc' := 229) rfl ?_
  refine f_aload A332 at_229 (pc' := 231) rfl rfl rfl ?_
  refine f_iconst A332 at_231 (pc' := 232) rfl 1 rfl ?_
  refine f_callV A332 (a := a) at_232 (pc' := 235) rfl (wd hw 187 rfl) (wd hw 188 rfl) (nfS A332 (wd hw 190 rfl)) (wd hw 190 rfl) (wd hw 189 rfl) (by decide) G.exa pd25 [(.int (1 : Int32))] [] rfl rfl rfl 0 (Nat.le_of_eq rfl) (payCh (W := 0) A332 hw (wd hw 1 rfl) G latS O2 P5 O4 rG3 1 (by rw [hL]; omega) rfl (by decide) (by decide)) (kc := 0) (ks := 0) (by decide) (by decide) all0 (fun _ => sf0) fun v333 T333 h333 L333 A333 K333 q333 => ?_
  obtain ⟨rfl, hh333⟩ := q333
  obtain rfl := hh333.symm
  show Wp pG e below _ T333 (mkF m 235 _ [(.int c1)])
  refine f_iload A333 at_235 (pc' := 237) rfl rfl ?_
  refine f_icY A333 at_237 (teq rfl).1 (pc' := 242) (by decide) (by decide) ?_
  refine f_iload A333 at_242 (pc' := 244) rfl rfl ?_
  refine f_iconst A333 at_244 (pc' := 245) rfl 2 rfl ?_
  refine f_icY A333 at_245 (flt (by decide : ¬ (2 : Int32) < (2 : Int32))).2.2.2 (pc' := 261) (by decide) (by decide) ?_
  refine f_aload A333 at_261 (pc' := 263) rfl rfl rfl ?_
  refine f_iload A333 at_263 (pc' := 265) rfl rfl ?_
  refine f_callV A333 (a := a) at_265 (pc' := 268) rfl (wd hw 187 rfl) (wd hw 188 rfl) (nfS A333 (wd hw 190 rfl)) (wd hw 190 rfl) (wd hw 189 rfl) (by decide) G.exa pd25 [(.int (2 : Int32))] [] rfl rfl rfl 0 (Nat.le_of_eq rfl) (payCh (W := 0) A333 hw (wd hw 1 rfl) G latS O2 P5 O4 rG3 2 (by rw [hL]; omega) rfl (by decide) (by decide)) (kc := 0) (ks := 0) (by decide) (by decide) all0 (fun _ => sf0) fun v334 T334 h334 L334 A334 K334 q334 => ?_
  obtain ⟨rfl, hh334⟩ := q334
  obtain rfl := hh334.symm
  show Wp pG e below _ T334 (mkF m 268 _ [(.int (32 : Int32))])
  refine f_bipush A334 at_268 (pc' := 270) rfl 32 rfl ?_
  refine f_icN A334 at_270 (teq (by decide : (32 : Int32) = (32 : Int32))).2 (pc' := 273) rfl ?_
  refine f_aload A334 at_273 (pc' := 275) rfl rfl rfl ?_
  refine f_iload A334 at_275 (pc' := 277) rfl rfl ?_
  refine f_iconst A334 at_277 (pc' := 278) rfl 1 rfl ?_
  refine f_iadd A334 at_278 (pc' := 279) rfl (3 : Int32) (by decide) ?_
  refine f_callV A334 (a := a) at_279 (pc' := 282) rfl (wd hw 187 rfl) (wd hw 188 rfl) (nfS A334 (wd hw 190 rfl)) (wd hw 190 rfl) (wd hw 189 rfl) (by decide) G.exa pd25 [(.int (3 : Int32))] [] rfl rfl rfl 0 (Nat.le_of_eq rfl) (payCh (W := 0) A334 hw (wd hw 1 rfl) G latS O2 P5 O4 rG3 3 (by rw [hL]; omega) rfl (by decide) (by decide)) (kc := 0) (ks := 0) (by decide) (by decide) all0 (fun _ => sf0) fun v335 T335 h335 L335 A335 K335 q335 => ?_
  obtain ⟨rfl, hh335⟩ := q335
  obtain rfl := hh335.symm
  show Wp pG e below _ T335 (mkF m 282 _ [(.int (40 : Int32))])
  refine f_bipush A335 at_282 (pc' := 284) rfl 40 rfl ?_
  refine f_icN A335 at_284 (teq (by decide : (40 : Int32) = (40 : Int32))).2 (pc' := 287) rfl ?_
  refine f_aload A335 at_287 (pc' := 289) rfl rfl rfl ?_
  refine f_iload A335 at_289 (pc' := 291) rfl rfl ?_
  refine f_iconst A335 at_291 (pc' := 292) rfl 2 rfl ?_
  refine f_iadd A335 at_292 (pc' := 293) rfl (4 : Int32) (by decide) ?_
  refine f_callV A335 (a := a) at_293 (pc' := 296) rfl (wd hw 187 rfl) (wd hw 188 rfl) (nfS A335 (wd hw 190 rfl)) (wd hw 190 rfl) (wd hw 189 rfl) (by decide) G.exa pd25 [(.int (4 : Int32))] [] rfl rfl rfl 0 (Nat.le_of_eq rfl) (payCh (W := 0) A335 hw (wd hw 1 rfl) G latS O2 P5 O4 rG3 4 (by rw [hL]; omega) rfl (by decide) (by decide)) (kc := 0) (ks := 0) (by decide) (by decide) all0 (fun _ => sf0) fun v336 T336 h336 L336 A336 K336 q336 => ?_
  obtain ⟨rfl, hh336⟩ := q336
  obtain rfl := hh336.symm
  show Wp pG e below _ T336 (mkF m 296 _ [(.int (116 : Int32))])
  refine f_bipush A336 at_296 (pc' := 298) rfl 116 rfl ?_
  refine f_icN A336 at_298 (teq (by decide : (116 : Int32) = (116 : Int32))).2 (pc' := 301) rfl ?_
  refine f_aload A336 at_301 (pc' := 303) rfl rfl rfl ?_
  refine f_iload A336 at_303 (pc' := 305) rfl rfl ?_
  refine f_iconst A336 at_305 (pc' := 306) rfl 3 rfl ?_
  refine f_iadd A336 at_306 (pc' := 307) rfl (5 : Int32) (by decide) ?_
  refine f_callV A336 (a := a) at_307 (pc' := 310) rfl (wd hw 187 rfl) (wd hw 188 rfl) (nfS A336 (wd hw 190 rfl)) (wd hw 190 rfl) (wd hw 189 rfl) (by decide) G.exa pd25 [(.int (5 : Int32))] [] rfl rfl rfl 0 (Nat.le_of_eq rfl) (payCh (W := 0) A336 hw (wd hw 1 rfl) G latS O2 P5 O4 rG3 5 (by rw [hL]; omega) rfl (by decide) (by decide)) (kc := 0) (ks := 0) (by decide) (by decide) all0 (fun _ => sf0) fun v337 T337 h337 L337 A337 K337 q337 => ?_
  obtain ⟨rfl, hh337⟩ := q337
  obtain rfl := hh337.symm
  show Wp pG e below _ T337 (mkF m 310 _ [(.int (111 : Int32))])
  refine f_bipush A337 at_310 (pc' := 312) rfl 111 rfl ?_
  refine f_icN A337 at_312 (teq (by decide : (111 : Int32) = (111 : Int32))).2 (pc' := 315) rfl ?_
  refine f_aload A337 at_315 (pc' := 317) rfl rfl rfl ?_
  refine f_iload A337 at_317 (pc' := 319) rfl rfl ?_
  refine f_iconst A337 at_319 (pc' := 320) rfl 4 rfl ?_
  refine f_iadd A337 at_320 (pc' := 321) rfl (6 : Int32) (by decide) ?_
  refine f_callV A337 (a := a) at_321 (pc' := 324) rfl (wd hw 187 rfl) (wd hw 188 rfl) (nfS A337 (wd hw 190 rfl)) (wd hw 190 rfl) (wd hw 189 rfl) (by decide) G.exa pd25 [(.int (6 : Int32))] [] rfl rfl rfl 0 (Nat.le_of_eq rfl) (payCh (W := 0) A337 hw (wd hw 1 rfl) G latS O2 P5 O4 rG3 6 (by rw [hL]; omega) rfl (by decide) (by decide)) (kc := 0) (ks := 0) (by decide) (by decide) all0 (fun _ => sf0) fun v338 T338 h338 L338 A338 K338 q338 => ?_
  obtain ⟨rfl, hh338⟩ := q338
  obtain rfl := hh338.symm
  show Wp pG e below _ T338 (mkF m 324 _ [(.int (107 : Int32))])
  refine f_bipush A338 at_324 (pc' := 326) rfl 107 rfl ?_
  refine f_icN A338 at_326 (teq (by decide : (107 : Int32) = (107 : Int32))).2 (pc' := 329) rfl ?_
  refine f_aload A338 at_329 (pc' := 331) rfl rfl rfl ?_
  refine f_iload A338 at_331 (pc' := 333) rfl rfl ?_
  refine f_iconst A338 at_333 (pc' := 334) rfl 5 rfl ?_
  refine f_iadd A338 at_334 (pc' := 335) rfl (7 : Int32) (by decide) ?_
  refine f_callV A338 (a := a) at_335 (pc' := 338) rfl (wd hw 187 rfl) (wd hw 188 rfl) (nfS A338 (wd hw 190 rfl)) (wd hw 190 rfl) (wd hw 189 rfl) (by decide) G.exa pd25 [(.int (7 : Int32))] [] rfl rfl rfl 0 (Nat.le_of_eq rfl) (payCh (W := 0) A338 hw (wd hw 1 rfl) G latS O2 P5 O4 rG3 7 (by rw [hL]; omega) rfl (by decide) (by decide)) (kc := 0) (ks := 0) (by decide) (by decide) all0 (fun _ => sf0) fun v339 T339 h339 L339 A339 K339 q339 => ?_
  obtain ⟨rfl, hh339⟩ := q339
  obtain rfl := hh339.symm
  show Wp pG e below _ T339 (mkF m 338 _ [(.int (101 : Int32))])
  refine f_bipush A339 at_338 (pc' := 340) rfl 101 rfl ?_
  refine f_icN A339 at_340 (teq (by decide : (101 : Int32) = (101 : Int32))).2 (pc' := 343) rfl ?_
  refine f_aload A339 at_343 (pc' := 345) rfl rfl rfl ?_
  refine f_iload A339 at_345 (pc' := 347) rfl rfl ?_
  refine f_bipush A339 at_347 (pc' := 349) rfl 6 rfl ?_
  refine f_iadd A339 at_349 (pc' := 350) rfl (8 : Int32) (by decide) ?_
  refine f_callV A339 (a := a) at_350 (pc' := 353) rfl (wd hw 187 rfl) (wd hw 188 rfl) (nfS A339 (wd hw 190 rfl)) (wd hw 190 rfl) (wd hw 189 rfl) (by decide) G.exa pd25 [(.int (8 : Int32))] [] rfl rfl rfl 0 (Nat.le_of_eq rfl) (payCh (W := 0) A339 hw (wd hw 1 rfl) G latS O2 P5 O4 rG3 8 (by rw [hL]; omega) rfl (by decide) (by decide)) (kc := 0) (ks := 0) (by decide) (by decide) all0 (fun _ => sf0) fun v340 T340 h340 L340 A340 K340 q340 => ?_
  obtain ⟨rfl, hh340⟩ := q340
  obtain rfl := hh340.symm
  show Wp pG e below _ T340 (mkF m 353 _ [(.int (110 : Int32))])
  refine f_bipush A340 at_353 (pc' := 355) rfl 110 rfl ?_
  refine f_icN A340 at_355 (teq (by decide : (110 : Int32) = (110 : Int32))).2 (pc' := 358) rfl ?_
  refine f_aload A340 at_358 (pc' := 360) rfl rfl rfl ?_
  refine f_iload A340 at_360 (pc' := 362) rfl rfl ?_
  refine f_bipush A340 at_362 (pc' := 364) rfl 7 rfl ?_
  refine f_iadd A340 at_364 (pc' := 365) rfl (9 : Int32) (by decide) ?_
  refine f_callV A340 (a := a) at_365 (pc' := 368) rfl (wd hw 187 rfl) (wd hw 188 rfl) (nfS A340 (wd hw 190 rfl)) (wd hw 190 rfl) (wd hw 189 rfl) (by decide) G.exa pd25 [(.int (9 : Int32))] [] rfl rfl rfl 0 (Nat.le_of_eq rfl) (payCh (W := 0) A340 hw (wd hw 1 rfl) G latS O2 P5 O4 rG3 9 (by rw [hL]; omega) rfl (by decide) (by decide)) (kc := 0) (ks := 0) (by decide) (by decide) all0 (fun _ => sf0) fun v341 T341 h341 L341 A341 K341 q341 => ?_
  obtain ⟨rfl, hh341⟩ := q341
  obtain rfl := hh341.symm
  show Wp pG e below _ T341 (mkF m 368 _ [(.int (32 : Int32))])
  refine f_bipush A341 at_368 (pc' := 370) rfl 32 rfl ?_
  refine f_icY A341 at_370 (teq (by decide : (32 : Int32) = (32 : Int32))).1 (pc' := 375) (by decide) (by decide) ?_
  refine f_iload A341 at_375 (pc' := 377) rfl rfl ?_
  refine f_iconst A341 at_377 (pc' := 378) rfl 1 rfl ?_
  refine f_icN A341 at_378 (teq (by decide : (1 : Int32) = (1 : Int32))).2 (pc' := 381) rfl ?_
  refine f_aload A341 at_381 (pc' := 383) rfl rfl rfl ?_
  refine f_iload A341 at_383 (pc' := 385) rfl rfl ?_
  refine f_bipush A341 at_385 (pc' := 387) rfl 8 rfl ?_
  refine f_iadd A341 at_387 (pc' := 388) rfl (10 : Int32) (by decide) ?_
  refine f_callV A341 (a := a) at_388 (pc' := 391) rfl (wd hw 187 rfl) (wd hw 188 rfl) (nfS A341 (wd hw 190 rfl)) (wd hw 190 rfl) (wd hw 189 rfl) (by decide) G.exa pd25 [(.int (10 : Int32))] [] rfl rfl rfl 0 (Nat.le_of_eq rfl) (payCh (W := 0) A341 hw (wd hw 1 rfl) G latS O2 P5 O4 rG3 10 (by rw [hL]; omega) rfl (by decide) (by decide)) (kc := 0) (ks := 0) (by decide) (by decide) all0 (fun _ => sf0) fun v342 T342 h342 L342 A342 K342 q342 => ?_
  obtain ⟨rfl, hh342⟩ := q342
  obtain rfl := hh342.symm
  show Wp pG e below _ T342 (mkF m 391 _ [(.int (45 : Int32))])
  refine f_bipush A342 at_391 (pc' := 393) rfl 45 rfl ?_
  refine f_icY A342 at_393 (teq (by decide : (45 : Int32) = (45 : Int32))).1 (pc' := 398) (by decide) (by decide) ?_
  refine f_aload A342 at_398 (pc' := 400) rfl rfl rfl ?_
  refine f_callV A342 (a := a) at_400 (pc' := 403) rfl (wd hw 186 rfl) (wd hw 75 rfl) (nfS A342 (wd hw 77 rfl)) (wd hw 77 rfl) (wd hw 76 rfl) (by decide) G.exa pd5 [] [] rfl rfl rfl 0 (Nat.le_of_eq rfl) (payLen (W := 0) A342 hw (wd hw 1 rfl) G O2 P5 (by decide) (by decide)) (kc := 0) (ks := 0) (by decide) (by decide) all0 (fun _ => sf0) fun v343 T343 h343 L343 A343 K343 q343 => ?_
  obtain ⟨rfl, hh343⟩ := q343
  obtain rfl := hh343.symm
  show Wp pG e below _ T343 (mkF m 403 _ [(.int (Int32.ofNat (c0 :: c1 :: (32 : Int32) :: (40 : Int32) :: (116 : Int32) :: (111 : Int32) :: (107 : Int32) :: (101 : Int32) :: (110 : Int32) :: (32 : Int32) :: (45 : Int32) :: (dlist n dn ++ [(41 : Int32)])).length))])
  refine f_iconst A343 at_403 (pc' := 404) rfl 2 rfl ?_
  refine f_isub A343 at_404 (pc' := 405) rfl (Int32.ofNat (11 + dn + 1 - 2)) (by rw [hL, show 12 + dn = 11 + dn + 1 by omega]; exact ofn_sub (n := 2) (by omega) (by omega)) ?_
  refine f_istore A343 at_405 (pc' := 407) rfl (L' := #[.val (.long tk), .second, .val (.int i1), .val (.int i2), .val (.int i3), .val (.int ls), .val (.int c0), .val (.int c1), .val (.int c2), .val (.int (2 : Int32)), .val (.ref y), .val (.ref a), .val (.int (1 : Int32)), .val (.long tk), .second, .val (.int (Int32.ofNat dn)), .val (.int (Int32.ofNat (11 + dn + 1 - 2)))]) rfl ?_
  refine f_aload A343 at_407 (pc' := 409) rfl rfl rfl ?_
  refine f_iload A343 at_409 (pc' := 411) rfl rfl ?_
  refine f_iconst A343 at_411 (pc' := 412) rfl 1 rfl ?_
  refine f_iadd A343 at_412 (pc' := 413) rfl (Int32.ofNat (11 + dn)) (by rw [ofn_one (by omega), show 11 + dn + 1 - 2 + 1 = 11 + dn by omega]) ?_
  refine f_callV A343 (a := a) at_413 (pc' := 416) rfl (wd hw 187 rfl) (wd hw 188 rfl) (nfS A343 (wd hw 190 rfl)) (wd hw 190 rfl) (wd hw 189 rfl) (by decide) G.exa pd25 [(.int (Int32.ofNat (11 + dn)))] [] rfl rfl rfl 0 (Nat.le_of_eq rfl) (payCh (W := 0) A343 hw (wd hw 1 rfl) G latS O2 P5 O4 rG3 (11 + dn) (by rw [hL]; omega) rfl (by decide) (by decide)) (kc := 0) (ks := 0) (by decide) (by decide) all0 (fun _ => sf0) fun v344 T344 h344 L344 A344 K344 q344 => ?_
  obtain ⟨e344, hh344⟩ := q344
  obtain rfl := hh344.symm
  rw [hlast] at e344
  subst e344
  show Wp pG e below _ T344 (mkF m 416 _ [(.int (41 : Int32))])
  refine f_bipush A344 at_416 (pc' := 418) rfl 41 rfl ?_
  refine f_icY A344 at_418 (teq (by decide : (41 : Int32) = (41 : Int32))).1 (pc' := 423) (by decide) (by decide) ?_
  exact m_dgt l Z a0 hw tk i1 i2 i3 ls c0 c1 c2 _ _ y a t tk n dn 11 [c0, c1, (32 : Int32), (40 : Int32), (116 : Int32), (111 : Int32), (107 : Int32), (101 : Int32), (110 : Int32), (32 : Int32), (45 : Int32)] zc O2 P5 fm O4 rG3 h0 n0 hEL hlk hret _ _ _ _ A344 Kh G latS hn hq hdn20 rfl (by decide)
set_option maxRecDepth 65536 in
set_option maxHeartbeats 40000000 in
theorem m_tl2p (l : Launch) (Z : State) (a0 : Array Value) (hw : ∀ d ∈ tables_1, d.before a0 Z = true) (tk : Int64) (i1 i2 i3 ls : Int32) (c0 c1 c2 : Int32) (y a t : Addr) (n dn : Nat) (zc : Int32) (O2 : Sta Z Z.heap "java/lang/String" "COMPACT_STRINGS" "Z" (.int zc)) (P5 : ¬ zc = 0) (fm : Value) (O4 : Sta Z Z.heap "jdk/internal/util/Preconditions" "SIOOBE_FORMATTER" "Ljava/util/function/BiFunction;" fm) (rG3 : fm.isRef = true) (h0 : Heap) (n0 : Nat) (hEL : EW Z a0 ELs) {pG : Program} {e : Env} {s : State} {m : MethodId} {below : List Frame} {meth : Method} {cO : Code} (hlk : meth.locks = false) (hret : meth.sig.returnType = ret) (vm : Vm) (T : State) (h : Heap) (locs : List Loc) (A : WS pG l e room_1 s m #[(.long tk), (.int i1), (.int i2), (.int i3), (.int ls)] below meth cO Z ELs n0 x.cls code maxLocals true vm T h locs 32 3392) (Kh : Keep h0 h []) (G0 : Str Z h a t ([c0, c1] ++ [(32 : Int32), (40 : Int32), (116 : Int32), (111 : Int32), (107 : Int32), (101 : Int32), (110 : Int32), (32 : Int32)] ++ ldL tk n ++ [(41 : Int32)])) (r0 : ¬ c0 < 0 ∧ ¬ (255 : Int32) < c0) (r1 : ¬ c1 < 0 ∧ ¬ (255 : Int32) < c1) (r2 : ¬ c2 < 0 ∧ ¬ (255 : Int32) < c2) (hn : n ≤ 2 ^ 63) (hx : (if tk < 0 then tk else -tk) = Jvm.Free.SBG.negL n) (hdn : Jvm.Free.SBG.digitsL n = dn) (hdn0 : 1 ≤ dn) (hdn20 : dn ≤ 20) (hneg : ¬ tk < 0) :
    Wp pG e below (PW s Z ELs n0 h0 [] (fun v h => v = some (.int 1)) room_1.cells room_1.slots) T (mkF m 150 #[.val (.long tk), .second, .val (.int i1), .val (.int i2), .val (.int i3), .val (.int ls), .val (.int c0), .val (.int c1), .val (.int c2), .val (.int (2 : Int32)), .val (.ref y), .val (.ref a), .unset, .unset, .unset, .unset, .unset] []) := by
  have G : Str Z h a t (c0 :: c1 :: (32 : Int32) :: (40 : Int32) :: (116 : Int32) :: (111 : Int32) :: (107 : Int32) :: (101 : Int32) :: (110 : Int32) :: (32 : Int32) :: (dlist n dn ++ [(41 : Int32)])) := by
    rw [ldL, if_neg hneg, hdn] at G0; exact G0
  have hL : (c0 :: c1 :: (32 : Int32) :: (40 : Int32) :: (116 : Int32) :: (111 : Int32) :: (107 : Int32) :: (101 : Int32) :: (110 : Int32) :: (32 : Int32) :: (dlist n dn ++ [(41 : Int32)])).length = 11 + dn := by
    show ([c0, c1, (32 : Int32), (40 : Int32), (116 : Int32), (111 : Int32), (107 : Int32), (101 : Int32), (110 : Int32), (32 : Int32)] ++ (dlist n dn ++ [(41 : Int32)])).length = _
    rw [List.length_append, List.length_append, dlist_len]; show 10 + (dn + 1) = _; omega
  have hlast : (c0 :: c1 :: (32 : Int32) :: (40 : Int32) :: (116 : Int32) :: (111 : Int32) :: (107 : Int32) :: (101 : Int32) :: (110 : Int32) :: (32 : Int32) :: (dlist n dn ++ [(41 : Int32)])).getD (10 + dn) 0 = 41 := getD_last (A := [c0, c1, (32 : Int32), (40 : Int32), (116 : Int32), (111 : Int32), (107 : Int32), (101 : Int32), (110 : Int32), (32 : Int32)]) (D := dlist n dn) (by rw [dlist_len]; rfl)
  have hq : -tk = Jvm.Free.SBG.negL n := by rw [if_neg hneg] at hx; exact hx
  have latS : ∀ c ∈ (c0 :: c1 :: (32 : Int32) :: (40 : Int32) :: (116 : Int32) :: (111 : Int32) :: (107 : Int32) :: (101 : Int32) :: (110 : Int32) :: (32 : Int32) :: (dlist n dn ++ [(41 : Int32)])), ¬ (255 : Int32) < c := lat2 (lc r0 (lc r1 (lc (by decide) (lc (by decide) (lc (by decide) (lc (by decide) (lc (by decide) (lc (by decide) (lc (by decide) (lc (by decide) (la dlist_rng (lc (by decide) ln))))))))))))
  have hlt : ¬ lcmpW tk 0 < 0 := fun z => hneg ((lw_lt _ _).mp z)
  refine f_lloadN A at_150 (pc' := 151) rfl rfl ?_
  refine f_lconst A at_151 (pc' := 152) rfl 0 rfl ?_
  refine f_lcmp A at_152 (pc' := 153) rfl (lcmpW tk (0 : Int64)) rfl ?_
  refine f_ifY A at_153 ((if0 _ _).trans (flt hlt).2.1) (pc' := 160) (by decide) (by decide) ?_
  refine f_iconst A at_160 (pc' := 161) rfl 0 rfl ?_
  refine f_istore A at_161 (pc' := 163) rfl (L' := #[.val (.long tk), .second, .val (.int i1), .val (.int i2), .val (.int i3), .val (.int ls), .val (.int c0), .val (.int c1), .val (.int c2), .val (.int (2 : Int32)), .val (.ref y), .val (.ref a), .val (.int (0 : Int32)), .unset, .unset, .unset, .unset]) rfl ?_
  refine f_lloadN A at_163 (pc' := 164) rfl rfl ?_
  refine f_lconst A at_164 (pc' := 165) rfl 0 rfl ?_
  refine f_lcmp A at_165 (pc' := 166) rfl (lcmpW tk (0 : Int64)) rfl ?_
  refine f_ifY A at_166 ((if0 _ _).trans (flt hlt).2.1) (pc' := 173) (by decide) (by decide) ?_
  refine f_lloadN A at_173 (pc' := 174) rfl rfl ?_
  refine f_lneg A at_174 (pc' := 175) rfl (-tk) rfl ?_
  refine f_lstore A at_175 (pc' := 177) rfl (L' := #[.val (.long tk), .second, .val (.int i1), .val (.int i2), .val (.int i3), .val (.int ls), .val (.int c0), .val (.int c1), .val (.int c2), .val (.int (2 : Int32)), .val (.ref y), .val (.ref a), .val (.int (0 : Int32)), .val (.long (-tk)), .second, .unset, .unset]) rfl ?_
  refine f_lload A at_177 (pc' := 179) rfl rfl ?_
  refine f_callS A at_179 (pc' := 182) rfl (wd hw 181 rfl) (wd hw 182 rfl) (wd hw 183 rfl) (wd hw 184 rfl) (by decide) pd18 [(.long (-tk))] [] rfl rfl rfl 0 (Nat.le_of_eq rfl) (CN.pay (W := 0) A (m_dgs l Z a0 hw (-tk) n h n0 A.old hn hq) (wd hw 184 rfl) (wd hw 183 rfl) (by decide) (by decide)) (kc := 0) (ks := 0) (by decide) (by decide) all0 (fun _ => sf0) fun v345 T345 h345 L345 A345 K345 q345 => ?_
  obtain ⟨rfl, hh345⟩ := q345
  obtain rfl := hh345.symm
  rw [hdn]
  show Wp pG e below _ T345 (mkF m 182 _ [(.int (Int32.ofNat dn))])
  refine f_istore A345 at_182 (pc' := 184) rfl (L' := #[.val (.long tk), .second, .val (.int i1), .val (.int i2), .val (.int i3), .val (.int ls), .val (.int c0), .val (.int c1), .val (.int c2), .val (.int (2 : Int32)), .val (.ref y), .val (.ref a), .val (.int (0 : Int32)), .val (.long (-tk)), .second, .val (.int (Int32.ofNat dn)), .unset]) rfl ?_
  refine f_aload A345 at_184 (pc' := 186) rfl rfl rfl ?_
  refine f_callV A345 (a := a) at_186 (pc' := 189) rfl (wd hw 186 rfl) (wd hw 75 rfl) (nfS A345 (wd hw 77 rfl)) (wd hw 77 rfl) (wd hw 76 rfl) (by decide) G.exa pd5 [] [] rfl rfl rfl 0 (Nat.le_of_eq rfl) (payLen (W := 0) A345 hw (wd hw 1 rfl) G O2 P5 (by decide) (by decide)) (kc := 0) (ks := 0) (by decide) (by decide) all0 (fun _ => sf0) fun v346 T346 h346 L346 A346 K346 q346 => ?_
  obtain ⟨rfl, hh346⟩ := q346
  obtain rfl := hh346.symm
  show Wp pG e below _ T346 (mkF m 189 _ [(.int (Int32.ofNat (c0 :: c1 :: (32 : Int32) :: (40 : Int32) :: (116 : Int32) :: (111 : Int32) :: (107 : Int32) :: (101 : Int32) :: (110 : Int32) :: (32 : Int32) :: (dlist n dn ++ [(41 : Int32)])).length))])
  refine f_iload A346 at_189 (pc' := 191) rfl rfl ?_
  refine f_bipush A346 at_191 (pc' := 193) rfl 9 rfl ?_
  refine f_iadd A346 at_193 (pc' := 194) rfl (11 : Int32) (by decide) ?_
  refine f_iload A346 at_194 (pc' := 196) rfl rfl ?_
  refine f_iadd A346 at_196 (pc' := 197) rfl (11 : Int32) (by decide) ?_
  refine f_iload A346 at_197 (pc' := 199) rfl rfl ?_
  refine f_iadd A346 at_199 (pc' := 200) rfl ((11 : Int32) + (Int32.ofNat dn)) rfl ?_
  refine f_icY A346 at_200 (teq (by rw [hL]; exact (ofn_add (i := 11) (n := dn) (by omega)).symm)).1 (pc' := 205) (by decide) (by decide) ?_
  refine f_iload A346 at_205 (pc' := 207) rfl rfl ?_
  refine f_ifN A346 at_207 ((if0 _ _).trans (tlt (by decide : (0 : Int32) < (2 : Int32))).2.2.2) (pc' := 210) rfl ?_
  refine f_aload A346 at_210 (pc' := 212) rfl rfl rfl ?_
  refine f_iconst A346 at_212 (pc' := 213) rfl 0 rfl ?_
  refine f_callV A346 (a := a) at_213 (pc' := 216) rfl (wd hw 187 rfl) (wd hw 188 rfl) (nfS A346 (wd hw 190 rfl)) (wd hw 190 rfl) (wd hw 189 rfl) (by decide) G.exa pd25 [(.int (0 : Int32))] [] rfl rfl rfl 0 (Nat.le_of_eq rfl) (payCh (W := 0) A346 hw (wd hw 1 rfl) G latS O2 P5 O4 rG3 0 (by rw [hL]; omega) rfl (by decide) (by decide)) (kc := 0) (ks := 0) (by decide) (by decide) all0 (fun _ => sf0) fun v347 T347 h347 L347 A347 K347 q347 => ?_
  obtain ⟨rfl, hh347⟩ := q347
  obtain rfl := hh347.symm
  show Wp pG e below _ T347 (mkF m 216 _ [(.int c0)])
  refine f_iload A347 at_216 (pc' := 218) rfl rfl ?_
  refine f_icY A347 at_218 (teq rfl).1 (pc' := 223) (by decide) (by decide) ?_
  refine f_iload A347 at_223 (pc' := 225) rfl rfl ?_
  refine f_iconst A347 at_225 (pc' := 226) rfl 1 rfl ?_
  refine f_icN A347 at_226 (tlt (by decide : (1 : Int32) < (2 : Int32))).2.2.2 (pc' := 229) rfl ?_
  refine f_aload A347 at_229 (pc' := 231) rfl rfl rfl ?_
  refine f_iconst A347 at_231 (pc' := 232) rfl 1 rfl ?_
  refine f_callV A347 (a := a) at_232 (pc' := 235) rfl (wd hw 187 rfl) (wd hw 188 rfl) (nfS A347 (wd hw 190 rfl)) (wd hw 190 rfl) (wd hw 189 rfl) (by decide) G.exa pd25 [(.int (1 : Int32))] [] rfl rfl rfl 0 (Nat.le_of_eq rfl) (payCh (W := 0) A347 hw (wd hw 1 rfl) G latS O2 P5 O4 rG3 1 (by rw [hL]; omega) rfl (by decide) (by decide)) (kc := 0) (ks := 0) (by decide) (by decide) all0 (fun _ => sf0) fun v348 T348 h348 L348 A348 K348 q348 => ?_
  obtain ⟨rfl, hh348⟩ := q348
  obtain rfl := hh348.symm
  show Wp pG e below _ T348 (mkF m 235 _ [(.int c1)])
  refine f_iload A348 at_235 (pc' := 237) rfl rfl ?_
  refine f_icY A348 at_237 (teq rfl).1 (pc' := 242) (by decide) (by decide) ?_
  refine f_iload A348 at_242 (pc' := 244) rfl rfl ?_
  refine f_iconst A348 at_244 (pc' := 245) rfl 2 rfl ?_
  refine f_icY A348 at_245 (flt (by decide : ¬ (2 : Int32) < (2 : Int32))).2.2.2 (pc' := 261) (by decide) (by decide) ?_
  refine f_aload A348 at_261 (pc' := 263) rfl rfl rfl ?_
  refine f_iload A348 at_263 (pc' := 265) rfl rfl ?_
  refine f_callV A348 (a := a) at_265 (pc' := 268) rfl (wd hw 187 rfl) (wd hw 188 rfl) (nfS A348 (wd hw 190 rfl)) (wd hw 190 rfl) (wd hw 189 rfl) (by decide) G.exa pd25 [(.int (2 : Int32))] [] rfl rfl rfl 0 (Nat.le_of_eq rfl) (payCh (W := 0) A348 hw (wd hw 1 rfl) G latS O2 P5 O4 rG3 2 (by rw [hL]; omega) rfl (by decide) (by decide)) (kc := 0) (ks := 0) (by decide) (by decide) all0 (fun _ => sf0) fun v349 T349 h349 L349 A349 K349 q349 => ?_
  obtain ⟨rfl, hh349⟩ := q349
  obtain rfl := hh349.symm
  show Wp pG e below _ T349 (mkF m 268 _ [(.int (32 : Int32))])
  refine f_bipush A349 at_268 (pc' := 270) rfl 32 rfl ?_
  refine f_icN A349 at_270 (teq (by decide : (32 : Int32) = (32 : Int32))).2 (pc' := 273) rfl ?_
  refine f_aload A349 at_273 (pc' := 275) rfl rfl rfl ?_
  refine f_iload A349 at_275 (pc' := 277) rfl rfl ?_
  refine f_iconst A349 at_277 (pc' := 278) rfl 1 rfl ?_
  refine f_iadd A349 at_278 (pc' := 279) rfl (3 : Int32) (by decide) ?_
  refine f_callV A349 (a := a) at_279 (pc' := 282) rfl (wd hw 187 rfl) (wd hw 188 rfl) (nfS A349 (wd hw 190 rfl)) (wd hw 190 rfl) (wd hw 189 rfl) (by decide) G.exa pd25 [(.int (3 : Int32))] [] rfl rfl rfl 0 (Nat.le_of_eq rfl) (payCh (W := 0) A349 hw (wd hw 1 rfl) G latS O2 P5 O4 rG3 3 (by rw [hL]; omega) rfl (by decide) (by decide)) (kc := 0) (ks := 0) (by decide) (by decide) all0 (fun _ => sf0) fun v350 T350 h350 L350 A350 K350 q350 => ?_
  obtain ⟨rfl, hh350⟩ := q350
  obtain rfl := hh350.symm
  show Wp pG e below _ T350 (mkF m 282 _ [(.int (40 : Int32))])
  refine f_bipush A350 at_282 (pc' := 284) rfl 40 rfl ?_
  refine f_icN A350 at_284 (teq (by decide : (40 : Int32) = (40 : Int32))).2 (pc' := 287) rfl ?_
  refine f_aload A350 at_287 (pc' := 289) rfl rfl rfl ?_
  refine f_iload A350 at_289 (pc' := 291) rfl rfl ?_
  refine f_iconst A350 at_291 (pc' := 292) rfl 2 rfl ?_
  refine f_iadd A350 at_292 (pc' := 293) rfl (4 : Int32) (by decide) ?_
  refine f_callV A350 (a := a) at_293 (pc' := 296) rfl (wd hw 187 rfl) (wd hw 188 rfl) (nfS A350 (wd hw 190 rfl)) (wd hw 190 rfl) (wd hw 189 rfl) (by decide) G.exa pd25 [(.int (4 : Int32))] [] rfl rfl rfl 0 (Nat.le_of_eq rfl) (payCh (W := 0) A350 hw (wd hw 1 rfl) G latS O2 P5 O4 rG3 4 (by rw [hL]; omega) rfl (by decide) (by decide)) (kc := 0) (ks := 0) (by decide) (by decide) all0 (fun _ => sf0) fun v351 T351 h351 L351 A351 K351 q351 => ?_
  obtain ⟨rfl, hh351⟩ := q351
  obtain rfl := hh351.symm
  show Wp pG e below _ T351 (mkF m 296 _ [(.int (116 : Int32))])
  refine f_bipush A351 at_296 (pc' := 298) rfl 116 rfl ?_
  refine f_icN A351 at_298 (teq (by decide : (116 : Int32) = (116 : Int32))).2 (pc' := 301) rfl ?_
  refine f_aload A351 at_301 (pc' := 303) rfl rfl rfl ?_
  refine f_iload A351 at_303 (pc' := 305) rfl rfl ?_
  refine f_iconst A351 at_305 (pc' := 306) rfl 3 rfl ?_
  refine f_iadd A351 at_306 (pc' := 307) rfl (5 : Int32) (by decide) ?_
  refine f_callV A351 (a := a) at_307 (pc' := 310) rfl (wd hw 187 rfl) (wd hw 188 rfl) (nfS A351 (wd hw 190 rfl)) (wd hw 190 rfl) (wd hw 189 rfl) (by decide) G.exa pd25 [(.int (5 : Int32))] [] rfl rfl rfl 0 (Nat.le_of_eq rfl) (payCh (W := 0) A351 hw (wd hw 1 rfl) G latS O2 P5 O4 rG3 5 (by rw [hL]; omega) rfl (by decide) (by decide)) (kc := 0) (ks := 0) (by decide) (by decide) all0 (fun _ => sf0) fun v352 T352 h352 L352 A352 K352 q352 => ?_
  obtain ⟨rfl, hh352⟩ := q352
  obtain rfl := hh352.symm
  show Wp pG e below _ T352 (mkF m 310 _ [(.int (111 : Int32))])
  refine f_bipush A352 at_310 (pc' := 312) rfl 111 rfl ?_
  refine f_icN A352 at_312 (teq (by decide : (111 : Int32) = (111 : Int32))).2 (pc' := 315) rfl ?_
  refine f_aload A352 at_315 (pc' := 317) rfl rfl rfl ?_
  refine f_iload A352 at_317 (pc' := 319) rfl rfl ?_
  refine f_iconst A352 at_319 (pc' := 320) rfl 4 rfl ?_
  refine f_iadd A352 at_320 (pc' := 321) rfl (6 : Int32) (by decide) ?_
  refine f_callV A352 (a := a) at_321 (pc' := 324) rfl (wd hw 187 rfl) (wd hw 188 rfl) (nfS A352 (wd hw 190 rfl)) (wd hw 190 rfl) (wd hw 189 rfl) (by decide) G.exa pd25 [(.int (6 : Int32))] [] rfl rfl rfl 0 (Nat.le_of_eq rfl) (payCh (W := 0) A352 hw (wd hw 1 rfl) G latS O2 P5 O4 rG3 6 (by rw [hL]; omega) rfl (by decide) (by decide)) (kc := 0) (ks := 0) (by decide) (by decide) all0 (fun _ => sf0) fun v353 T353 h353 L353 A353 K353 q353 => ?_
  obtain ⟨rfl, hh353⟩ := q353
  obtain rfl := hh353.symm
  show Wp pG e below _ T353 (mkF m 324 _ [(.int (107 : Int32))])
  refine f_bipush A353 at_324 (pc' := 326) rfl 107 rfl ?_
  refine f_icN A353 at_326 (teq (by decide : (107 : Int32) = (107 : Int32))).2 (pc' := 329) rfl ?_
  refine f_aload A353 at_329 (pc' := 331) rfl rfl rfl ?_
  refine f_iload A353 at_331 (pc' := 333) rfl rfl ?_
  refine f_iconst A353 at_333 (pc' := 334) rfl 5 rfl ?_
  refine f_iadd A353 at_334 (pc' := 335) rfl (7 : Int32) (by decide) ?_
  refine f_callV A353 (a := a) at_335 (pc' := 338) rfl (wd hw 187 rfl) (wd hw 188 rfl) (nfS A353 (wd hw 190 rfl)) (wd hw 190 rfl) (wd hw 189 rfl) (by decide) G.exa pd25 [(.int (7 : Int32))] [] rfl rfl rfl 0 (Nat.le_of_eq rfl) (payCh (W := 0) A353 hw (wd hw 1 rfl) G latS O2 P5 O4 rG3 7 (by rw [hL]; omega) rfl (by decide) (by decide)) (kc := 0) (ks := 0) (by decide) (by decide) all0 (fun _ => sf0) fun v354 T354 h354 L354 A354 K354 q354 => ?_
  obtain ⟨rfl, hh354⟩ := q354
  obtain rfl := hh354.symm
  show Wp pG e below _ T354 (mkF m 338 _ [(.int (101 : Int32))])
  refine f_bipush A354 at_338 (pc' := 340) rfl 101 rfl ?_
  refine f_icN A354 at_340 (teq (by decide : (101 : Int32) = (101 : Int32))).2 (pc' := 343) rfl ?_
  refine f_aload A354 at_343 (pc' := 345) rfl rfl rfl ?_
  refine f_iload A354 at_345 (pc' := 347) rfl rfl ?_
  refine f_bipush A354 at_347 (pc' := 349) rfl 6 rfl ?_
  refine f_iadd A354 at_349 (pc' := 350) rfl (8 : Int32) (by decide) ?_
  refine f_callV A354 (a := a) at_350 (pc' := 353) rfl (wd hw 187 rfl) (wd hw 188 rfl) (nfS A354 (wd hw 190 rfl)) (wd hw 190 rfl) (wd hw 189 rfl) (by decide) G.exa pd25 [(.int (8 : Int32))] [] rfl rfl rfl 0 (Nat.le_of_eq rfl) (payCh (W := 0) A354 hw (wd hw 1 rfl) G latS O2 P5 O4 rG3 8 (by rw [hL]; omega) rfl (by decide) (by decide)) (kc := 0) (ks := 0) (by decide) (by decide) all0 (fun _ => sf0) fun v355 T355 h355 L355 A355 K355 q355 => ?_
  obtain ⟨rfl, hh355⟩ := q355
  obtain rfl := hh355.symm
  show Wp pG e below _ T355 (mkF m 353 _ [(.int (110 : Int32))])
  refine f_bipush A355 at_353 (pc' := 355) rfl 110 rfl ?_
  refine f_icN A355 at_355 (teq (by decide : (110 : Int32) = (110 : Int32))).2 (pc' := 358) rfl ?_
  refine f_aload A355 at_358 (pc' := 360) rfl rfl rfl ?_
  refine f_iload A355 at_360 (pc' := 362) rfl rfl ?_
  refine f_bipush A355 at_362 (pc' := 364) rfl 7 rfl ?_
  refine f_iadd A355 at_364 (pc' := 365) rfl (9 : Int32) (by decide) ?_
  refine f_callV A355 (a := a) at_365 (pc' := 368) rfl (wd hw 187 rfl) (wd hw 188 rfl) (nfS A355 (wd hw 190 rfl)) (wd hw 190 rfl) (wd hw 189 rfl) (by decide) G.exa pd25 [(.int (9 : Int32))] [] rfl rfl rfl 0 (Nat.le_of_eq rfl) (payCh (W := 0) A355 hw (wd hw 1 rfl) G latS O2 P5 O4 rG3 9 (by rw [hL]; omega) rfl (by decide) (by decide)) (kc := 0) (ks := 0) (by decide) (by decide) all0 (fun _ => sf0) fun v356 T356 h356 L356 A356 K356 q356 => ?_
  obtain ⟨rfl, hh356⟩ := q356
  obtain rfl := hh356.symm
  show Wp pG e below _ T356 (mkF m 368 _ [(.int (32 : Int32))])
  refine f_bipush A356 at_368 (pc' := 370) rfl 32 rfl ?_
  refine f_icY A356 at_370 (teq (by decide : (32 : Int32) = (32 : Int32))).1 (pc' := 375) (by decide) (by decide) ?_
  refine f_iload A356 at_375 (pc' := 377) rfl rfl ?_
  refine f_iconst A356 at_377 (pc' := 378) rfl 1 rfl ?_
  refine f_icY A356 at_378 (feq (by decide : ¬ (0 : Int32) = (1 : Int32))).2 (pc' := 398) (by decide) (by decide) ?_
  refine f_aload A356 at_398 (pc' := 400) rfl rfl rfl ?_
  refine f_callV A356 (a := a) at_400 (pc' := 403) rfl (wd hw 186 rfl) (wd hw 75 rfl) (nfS A356 (wd hw 77 rfl)) (wd hw 77 rfl) (wd hw 76 rfl) (by decide) G.exa pd5 [] [] rfl rfl rfl 0 (Nat.le_of_eq rfl) (payLen (W := 0) A356 hw (wd hw 1 rfl) G O2 P5 (by decide) (by decide)) (kc := 0) (ks := 0) (by decide) (by decide) all0 (fun _ => sf0) fun v357 T357 h357 L357 A357 K357 q357 => ?_
  obtain ⟨rfl, hh357⟩ := q357
  obtain rfl := hh357.symm
  show Wp pG e below _ T357 (mkF m 403 _ [(.int (Int32.ofNat (c0 :: c1 :: (32 : Int32) :: (40 : Int32) :: (116 : Int32) :: (111 : Int32) :: (107 : Int32) :: (101 : Int32) :: (110 : Int32) :: (32 : Int32) :: (dlist n dn ++ [(41 : Int32)])).length))])
  refine f_iconst A357 at_403 (pc' := 404) rfl 2 rfl ?_
  refine f_isub A357 at_404 (pc' := 405) rfl (Int32.ofNat (10 + dn + 1 - 2)) (by rw [hL, show 11 + dn = 10 + dn + 1 by omega]; exact ofn_sub (n := 2) (by omega) (by omega)) ?_
  refine f_istore A357 at_405 (pc' := 407) rfl (L' := #[.val (.long tk), .second, .val (.int i1), .val (.int i2), .val (.int i3), .val (.int ls), .val (.int c0), .val (.int c1), .val (.int c2), .val (.int (2 : Int32)), .val (.ref y), .val (.ref a), .val (.int (0 : Int32)), .val (.long (-tk)), .second, .val (.int (Int32.ofNat dn)), .val (.int (Int32.ofNat (10 + dn + 1 - 2)))]) rfl ?_
  refine f_aload A357 at_407 (pc' := 409) rfl rfl rfl ?_
  refine f_iload A357 at_409 (pc' := 411) rfl rfl ?_
  refine f_iconst A357 at_411 (pc' := 412) rfl 1 rfl ?_
  refine f_iadd A357 at_412 (pc' := 413) rfl (Int32.ofNat (10 + dn)) (by rw [ofn_one (by omega), show 10 + dn + 1 - 2 + 1 = 10 + dn by omega]) ?_
  refine f_callV A357 (a := a) at_413 (pc' := 416) rfl (wd hw 187 rfl) (wd hw 188 rfl) (nfS A357 (wd hw 190 rfl)) (wd hw 190 rfl) (wd hw 189 rfl) (by decide) G.exa pd25 [(.int (Int32.ofNat (10 + dn)))] [] rfl rfl rfl 0 (Nat.le_of_eq rfl) (payCh (W := 0) A357 hw (wd hw 1 rfl) G latS O2 P5 O4 rG3 (10 + dn) (by rw [hL]; omega) rfl (by decide) (by decide)) (kc := 0) (ks := 0) (by decide) (by decide) all0 (fun _ => sf0) fun v358 T358 h358 L358 A358 K358 q358 => ?_
  obtain ⟨e358, hh358⟩ := q358
  obtain rfl := hh358.symm
  rw [hlast] at e358
  subst e358
  show Wp pG e below _ T358 (mkF m 416 _ [(.int (41 : Int32))])
  refine f_bipush A358 at_416 (pc' := 418) rfl 41 rfl ?_
  refine f_icY A358 at_418 (teq (by decide : (41 : Int32) = (41 : Int32))).1 (pc' := 423) (by decide) (by decide) ?_
  exact m_dgt l Z a0 hw tk i1 i2 i3 ls c0 c1 c2 _ _ y a t (-tk) n dn 10 [c0, c1, (32 : Int32), (40 : Int32), (116 : Int32), (111 : Int32), (107 : Int32), (101 : Int32), (110 : Int32), (32 : Int32)] zc O2 P5 fm O4 rG3 h0 n0 hEL hlk hret _ _ _ _ A358 Kh G latS hn hq hdn20 rfl (by decide)
set_option maxRecDepth 65536 in
set_option maxHeartbeats 40000000 in
theorem m_tl3n (l : Launch) (Z : State) (a0 : Array Value) (hw : ∀ d ∈ tables_1, d.before a0 Z = true) (tk : Int64) (i1 i2 i3 ls : Int32) (c0 c1 c2 : Int32) (y a t : Addr) (n dn : Nat) (zc : Int32) (O2 : Sta Z Z.heap "java/lang/String" "COMPACT_STRINGS" "Z" (.int zc)) (P5 : ¬ zc = 0) (fm : Value) (O4 : Sta Z Z.heap "jdk/internal/util/Preconditions" "SIOOBE_FORMATTER" "Ljava/util/function/BiFunction;" fm) (rG3 : fm.isRef = true) (h0 : Heap) (n0 : Nat) (hEL : EW Z a0 ELs) {pG : Program} {e : Env} {s : State} {m : MethodId} {below : List Frame} {meth : Method} {cO : Code} (hlk : meth.locks = false) (hret : meth.sig.returnType = ret) (vm : Vm) (T : State) (h : Heap) (locs : List Loc) (A : WS pG l e room_1 s m #[(.long tk), (.int i1), (.int i2), (.int i3), (.int ls)] below meth cO Z ELs n0 x.cls code maxLocals true vm T h locs 32 3392) (Kh : Keep h0 h []) (G0 : Str Z h a t ([c0, c1, c2] ++ [(32 : Int32), (40 : Int32), (116 : Int32), (111 : Int32), (107 : Int32), (101 : Int32), (110 : Int32), (32 : Int32)] ++ ldL tk n ++ [(41 : Int32)])) (r0 : ¬ c0 < 0 ∧ ¬ (255 : Int32) < c0) (r1 : ¬ c1 < 0 ∧ ¬ (255 : Int32) < c1) (r2 : ¬ c2 < 0 ∧ ¬ (255 : Int32) < c2) (hn : n ≤ 2 ^ 63) (hx : (if tk < 0 then tk else -tk) = Jvm.Free.SBG.negL n) (hdn : Jvm.Free.SBG.digitsL n = dn) (hdn0 : 1 ≤ dn) (hdn20 : dn ≤ 20) (hneg : tk < 0) :
    Wp pG e below (PW s Z ELs n0 h0 [] (fun v h => v = some (.int 1)) room_1.cells room_1.slots) T (mkF m 150 #[.val (.long tk), .second, .val (.int i1), .val (.int i2), .val (.int i3), .val (.int ls), .val (.int c0), .val (.int c1), .val (.int c2), .val (.int (3 : Int32)), .val (.ref y), .val (.ref a), .unset, .unset, .unset, .unset, .unset] []) := by
  have G : Str Z h a t (c0 :: c1 :: c2 :: (32 : Int32) :: (40 : Int32) :: (116 : Int32) :: (111 : Int32) :: (107 : Int32) :: (101 : Int32) :: (110 : Int32) :: (32 : Int32) :: (45 : Int32) :: (dlist n dn ++ [(41 : Int32)])) := by
    rw [ldL, if_pos hneg, hdn] at G0; exact G0
  have hL : (c0 :: c1 :: c2 :: (32 : Int32) :: (40 : Int32) :: (116 : Int32) :: (111 : Int32) :: (107 : Int32) :: (101 : Int32) :: (110 : Int32) :: (32 : Int32) :: (45 : Int32) :: (dlist n dn ++ [(41 : Int32)])).length = 13 + dn := by
    show ([c0, c1, c2, (32 : Int32), (40 : Int32), (116 : Int32), (111 : Int32), (107 : Int32), (101 : Int32), (110 : Int32), (32 : Int32), (45 : Int32)] ++ (dlist n dn ++ [(41 : Int32)])).length = _
    rw [List.length_append, List.length_append, dlist_len]; show 12 + (dn + 1) = _; omega
  have hlast : (c0 :: c1 :: c2 :: (32 : Int32) :: (40 : Int32) :: (116 : Int32) :: (111 : Int32) :: (107 : Int32) :: (101 : Int32) :: (110 : Int32) :: (32 : Int32) :: (45 : Int32) :: (dlist n dn ++ [(41 : Int32)])).getD (12 + dn) 0 = 41 := getD_last (A := [c0, c1, c2, (32 : Int32), (40 : Int32), (116 : Int32), (111 : Int32), (107 : Int32), (101 : Int32), (110 : Int32), (32 : Int32), (45 : Int32)]) (D := dlist n dn) (by rw [dlist_len]; rfl)
  have hq : tk = Jvm.Free.SBG.negL n := by rw [if_pos hneg] at hx; exact hx
  have latS : ∀ c ∈ (c0 :: c1 :: c2 :: (32 : Int32) :: (40 : Int32) :: (116 : Int32) :: (111 : Int32) :: (107 : Int32) :: (101 : Int32) :: (110 : Int32) :: (32 : Int32) :: (45 : Int32) :: (dlist n dn ++ [(41 : Int32)])), ¬ (255 : Int32) < c := lat2 (lc r0 (lc r1 (lc r2 (lc (by decide) (lc (by decide) (lc (by decide) (lc (by decide) (lc (by decide) (lc (by decide) (lc (by decide) (lc (by decide) (lc (by decide) (la dlist_rng (lc (by decide) ln))))))))))))))
  have hlt : lcmpW tk 0 < 0 := (lw_lt _ _).mpr hneg
  refine f_lloadN A at_150 (pc' := 151) rfl rfl ?_
  refine f_lconst A at_151 (pc' := 152) rfl 0 rfl ?_
  refine f_lcmp A at_152 (pc' := 153) rfl (lcmpW tk (0 : Int64)) rfl ?_
  refine f_ifN A at_153 ((if0 _ _).trans (tlt hlt).2.1) (pc' := 156) rfl ?_
  refine f_iconst A at_156 (pc' := 157) rfl 1 rfl ?_
  refine f_goto A at_157 (pc' := 161) (by decide) (by decide) ?_
  refine f_istore A at_161 (pc' := 163) rfl (L' := #[.val (.long tk), .second, .val (.int i1), .val (.int i2), .val (.int i3), .val (.int ls), .val (.int c0), .val (.int c1), .val (.int c2), .val (.int (3 : Int32)), .val (.ref y), .val (.ref a), .val (.int (1 : Int32)), .unset, .unset, .unset, .unset]) rfl ?_
  refine f_lloadN A at_163 (pc' := 164) rfl rfl ?_
  refine f_lconst A at_164 (pc' := 165) rfl 0 rfl ?_
  refine f_lcmp A at_165 (pc' := 166) rfl (lcmpW tk (0 : Int64)) rfl ?_
  refine f_ifN A at_166 ((if0 _ _).trans (tlt hlt).2.1) (pc' := 169) rfl ?_
  refine f_lloadN A at_169 (pc' := 170) rfl rfl ?_
  refine f_goto A at_170 (pc' := 175) (by decide) (by decide) ?_
  refine f_lstore A at_175 (pc' := 177) rfl (L' := #[.val (.long tk), .second, .val (.int i1), .val (.int i2), .val (.int i3), .val (.int ls), .val (.int c0), .val (.int c1), .val (.int c2), .val (.int (3 : Int32)), .val (.ref y), .val (.ref a), .val (.int (1 : Int32)), .val (.long tk), .second, .unset, .unset]) rfl ?_
  refine f_lload A at_177 (pc' := 179) rfl rfl ?_
  refine f_callS A at_179 (pc' := 182) rfl (wd hw 181 rfl) (wd hw 182 rfl) (wd hw 183 rfl) (wd hw 184 rfl) (by decide) pd18 [(.long tk)] [] rfl rfl rfl 0 (Nat.le_of_eq rfl) (CN.pay (W := 0) A (m_dgs l Z a0 hw tk n h n0 A.old hn hq) (wd hw 184 rfl) (wd hw 183 rfl) (by decide) (by decide)) (kc := 0) (ks := 0) (by decide) (by decide) all0 (fun _ => sf0) fun v359 T359 h359 L359 A359 K359 q359 => ?_
  obtain ⟨rfl, hh359⟩ := q359
  obtain rfl := hh359.symm
  rw [hdn]
  show Wp pG e below _ T359 (mkF m 182 _ [(.int (Int32.ofNat dn))])
  refine f_istore A359 at_182 (pc' := 184) rfl (L' := #[.val (.long tk), .second, .val (.int i1), .val (.int i2), .val (.int i3), .val (.int ls), .val (.int c0), .val (.int c1), .val (.int c2), .val (.int (3 : Int32)), .val (.ref y), .val (.ref a), .val (.int (1 : Int32)), .val (.long tk), .second, .val (.int (Int32.ofNat dn)), .unset]) rfl ?_
  refine f_aload A359 at_184 (pc' := 186) rfl rfl rfl ?_
  refine f_callV A359 (a := a) at_186 (pc' := 189) rfl (wd hw 186 rfl) (wd hw 75 rfl) (nfS A359 (wd hw 77 rfl)) (wd hw 77 rfl) (wd hw 76 rfl) (by decide) G.exa pd5 [] [] rfl rfl rfl 0 (Nat.le_of_eq rfl) (payLen (W := 0) A359 hw (wd hw 1 rfl) G O2 P5 (by decide) (by decide)) (kc := 0) (ks := 0) (by decide) (by decide) all0 (fun _ => sf0) fun v360 T360 h360 L360 A360 K360 q360 => ?_
  obtain ⟨rfl, hh360⟩ := q360
  obtain rfl := hh360.symm
  show Wp pG e below _ T360 (mkF m 189 _ [(.int (Int32.ofNat (c0 :: c1 :: c2 :: (32 : Int32) :: (40 : Int32) :: (116 : Int32) :: (111 : Int32) :: (107 : Int32) :: (101 : Int32) :: (110 : Int32) :: (32 : Int32) :: (45 : Int32) :: (dlist n dn ++ [(41 : Int32)])).length))])
  refine f_iload A360 at_189 (pc' := 191) rfl rfl ?_
  refine f_bipush A360 at_191 (pc' := 193) rfl 9 rfl ?_
  refine f_iadd A360 at_193 (pc' := 194) rfl (12 : Int32) (by decide) ?_
  refine f_iload A360 at_194 (pc' := 196) rfl rfl ?_
  refine f_iadd A360 at_196 (pc' := 197) rfl (13 : Int32) (by decide) ?_
  refine f_iload A360 at_197 (pc' := 199) rfl rfl ?_
  refine f_iadd A360 at_199 (pc' := 200) rfl ((13 : Int32) + (Int32.ofNat dn)) rfl ?_
  refine f_icY A360 at_200 (teq (by rw [hL]; exact (ofn_add (i := 13) (n := dn) (by omega)).symm)).1 (pc' := 205) (by decide) (by decide) ?_
  refine f_iload A360 at_205 (pc' := 207) rfl rfl ?_
  refine f_ifN A360 at_207 ((if0 _ _).trans (tlt (by decide : (0 : Int32) < (3 : Int32))).2.2.2) (pc' := 210) rfl ?_
  refine f_aload A360 at_210 (pc' := 212) rfl rfl rfl ?_
  refine f_iconst A360 at_212 (pc' := 213) rfl 0 rfl ?_
  refine f_callV A360 (a := a) at_213 (pc' := 216) rfl (wd hw 187 rfl) (wd hw 188 rfl) (nfS A360 (wd hw 190 rfl)) (wd hw 190 rfl) (wd hw 189 rfl) (by decide) G.exa pd25 [(.int (0 : Int32))] [] rfl rfl rfl 0 (Nat.le_of_eq rfl) (payCh (W := 0) A360 hw (wd hw 1 rfl) G latS O2 P5 O4 rG3 0 (by rw [hL]; omega) rfl (by decide) (by decide)) (kc := 0) (ks := 0) (by decide) (by decide) all0 (fun _ => sf0) fun v361 T361 h361 L361 A361 K361 q361 => ?_
  obtain ⟨rfl, hh361⟩ := q361
  obtain rfl := hh361.symm
  show Wp pG e below _ T361 (mkF m 216 _ [(.int c0)])
  refine f_iload A361 at_216 (pc' := 218) rfl rfl ?_
  refine f_icY A361 at_218 (teq rfl).1 (pc' := 223) (by decide) (by decide) ?_
  refine f_iload A361 at_223 (pc' := 225) rfl rfl ?_
  refine f_iconst A361 at_225 (pc' := 226) rfl 1 rfl ?_
  refine f_icN A361 at_226 (tlt (by decide : (1 : Int32) < (3 : Int32))).2.2.2 (pc' := 229) rfl ?_
  refine f_aload A361 at_229 (pc' := 231) rfl rfl rfl ?_
  refine f_iconst A361 at_231 (pc' := 232) rfl 1 rfl ?_
  refine f_callV A361 (a := a) at_232 (pc' := 235) rfl (wd hw 187 rfl) (wd hw 188 rfl) (nfS A361 (wd hw 190 rfl)) (wd hw 190 rfl) (wd hw 189 rfl) (by decide) G.exa pd25 [(.int (1 : Int32))] [] rfl rfl rfl 0 (Nat.le_of_eq rfl) (payCh (W := 0) A361 hw (wd hw 1 rfl) G latS O2 P5 O4 rG3 1 (by rw [hL]; omega) rfl (by decide) (by decide)) (kc := 0) (ks := 0) (by decide) (by decide) all0 (fun _ => sf0) fun v362 T362 h362 L362 A362 K362 q362 => ?_
  obtain ⟨rfl, hh362⟩ := q362
  obtain rfl := hh362.symm
  show Wp pG e below _ T362 (mkF m 235 _ [(.int c1)])
  refine f_iload A362 at_235 (pc' := 237) rfl rfl ?_
  refine f_icY A362 at_237 (teq rfl).1 (pc' := 242) (by decide) (by decide) ?_
  refine f_iload A362 at_242 (pc' := 244) rfl rfl ?_
  refine f_iconst A362 at_244 (pc' := 245) rfl 2 rfl ?_
  refine f_icN A362 at_245 (tlt (by decide : (2 : Int32) < (3 : Int32))).2.2.2 (pc' := 248) rfl ?_
  refine f_aload A362 at_248 (pc' := 250) rfl rfl rfl ?_
  refine f_iconst A362 at_250 (pc' := 251) rfl 2 rfl ?_
  refine f_callV A362 (a := a) at_251 (pc' := 254) rfl (wd hw 187 rfl) (wd hw 188 rfl) (nfS A362 (wd hw 190 rfl)) (wd hw 190 rfl) (wd hw 189 rfl) (by decide) G.exa pd25 [(.int (2 : Int32))] [] rfl rfl rfl 0 (Nat.le_of_eq rfl) (payCh (W := 0) A362 hw (wd hw 1 rfl) G latS O2 P5 O4 rG3 2 (by rw [hL]; omega) rfl (by decide) (by decide)) (kc := 0) (ks := 0) (by decide) (by decide) all0 (fun _ => sf0) fun v363 T363 h363 L363 A363 K363 q363 => ?_
  obtain ⟨rfl, hh363⟩ := q363
  obtain rfl := hh363.symm
  show Wp pG e below _ T363 (mkF m 254 _ [(.int c2)])
  refine f_iload A363 at_254 (pc' := 256) rfl rfl ?_
  refine f_icY A363 at_256 (teq rfl).1 (pc' := 261) (by decide) (by decide) ?_
  refine f_aload A363 at_261 (pc' := 263) rfl rfl rfl ?_
  refine f_iload A363 at_263 (pc' := 265) rfl rfl ?_
  refine f_callV A363 (a := a) at_265 (pc' := 268) rfl (wd hw 187 rfl) (wd hw 188 rfl) (nfS A363 (wd hw 190 rfl)) (wd hw 190 rfl) (wd hw 189 rfl) (by decide) G.exa pd25 [(.int (3 : Int32))] [] rfl rfl rfl 0 (Nat.le_of_eq rfl) (payCh (W := 0) A363 hw (wd hw 1 rfl) G latS O2 P5 O4 rG3 3 (by rw [hL]; omega) rfl (by decide) (by decide)) (kc := 0) (ks := 0) (by decide) (by decide) all0 (fun _ => sf0) fun v364 T364 h364 L364 A364 K364 q364 => ?_
  obtain ⟨rfl, hh364⟩ := q364
  obtain rfl := hh364.symm
  show Wp pG e below _ T364 (mkF m 268 _ [(.int (32 : Int32))])
  refine f_bipush A364 at_268 (pc' := 270) rfl 32 rfl ?_
  refine f_icN A364 at_270 (teq (by decide : (32 : Int32) = (32 : Int32))).2 (pc' := 273) rfl ?_
  refine f_aload A364 at_273 (pc' := 275) rfl rfl rfl ?_
  refine f_iload A364 at_275 (pc' := 277) rfl rfl ?_
  refine f_iconst A364 at_277 (pc' := 278) rfl 1 rfl ?_
  refine f_iadd A364 at_278 (pc' := 279) rfl (4 : Int32) (by decide) ?_
  refine f_callV A364 (a := a) at_279 (pc' := 282) rfl (wd hw 187 rfl) (wd hw 188 rfl) (nfS A364 (wd hw 190 rfl)) (wd hw 190 rfl) (wd hw 189 rfl) (by decide) G.exa pd25 [(.int (4 : Int32))] [] rfl rfl rfl 0 (Nat.le_of_eq rfl) (payCh (W := 0) A364 hw (wd hw 1 rfl) G latS O2 P5 O4 rG3 4 (by rw [hL]; omega) rfl (by decide) (by decide)) (kc := 0) (ks := 0) (by decide) (by decide) all0 (fun _ => sf0) fun v365 T365 h365 L365 A365 K365 q365 => ?_
  obtain ⟨rfl, hh365⟩ := q365
  obtain rfl := hh365.symm
  show Wp pG e below _ T365 (mkF m 282 _ [(.int (40 : Int32))])
  refine f_bipush A365 at_282 (pc' := 284) rfl 40 rfl ?_
  refine f_icN A365 at_284 (teq (by decide : (40 : Int32) = (40 : Int32))).2 (pc' := 287) rfl ?_
  refine f_aload A365 at_287 (pc' := 289) rfl rfl rfl ?_
  refine f_iload A365 at_289 (pc' := 291) rfl rfl ?_
  refine f_iconst A365 at_291 (pc' := 292) rfl 2 rfl ?_
  refine f_iadd A365 at_292 (pc' := 293) rfl (5 : Int32) (by decide) ?_
  refine f_callV A365 (a := a) at_293 (pc' := 296) rfl (wd hw 187 rfl) (wd hw 188 rfl) (nfS A365 (wd hw 190 rfl)) (wd hw 190 rfl) (wd hw 189 rfl) (by decide) G.exa pd25 [(.int (5 : Int32))] [] rfl rfl rfl 0 (Nat.le_of_eq rfl) (payCh (W := 0) A365 hw (wd hw 1 rfl) G latS O2 P5 O4 rG3 5 (by rw [hL]; omega) rfl (by decide) (by decide)) (kc := 0) (ks := 0) (by decide) (by decide) all0 (fun _ => sf0) fun v366 T366 h366 L366 A366 K366 q366 => ?_
  obtain ⟨rfl, hh366⟩ := q366
  obtain rfl := hh366.symm
  show Wp pG e below _ T366 (mkF m 296 _ [(.int (116 : Int32))])
  refine f_bipush A366 at_296 (pc' := 298) rfl 116 rfl ?_
  refine f_icN A366 at_298 (teq (by decide : (116 : Int32) = (116 : Int32))).2 (pc' := 301) rfl ?_
  refine f_aload A366 at_301 (pc' := 303) rfl rfl rfl ?_
  refine f_iload A366 at_303 (pc' := 305) rfl rfl ?_
  refine f_iconst A366 at_305 (pc' := 306) rfl 3 rfl ?_
  refine f_iadd A366 at_306 (pc' := 307) rfl (6 : Int32) (by decide) ?_
  refine f_callV A366 (a := a) at_307 (pc' := 310) rfl (wd hw 187 rfl) (wd hw 188 rfl) (nfS A366 (wd hw 190 rfl)) (wd hw 190 rfl) (wd hw 189 rfl) (by decide) G.exa pd25 [(.int (6 : Int32))] [] rfl rfl rfl 0 (Nat.le_of_eq rfl) (payCh (W := 0) A366 hw (wd hw 1 rfl) G latS O2 P5 O4 rG3 6 (by rw [hL]; omega) rfl (by decide) (by decide)) (kc := 0) (ks := 0) (by decide) (by decide) all0 (fun _ => sf0) fun v367 T367 h367 L367 A367 K367 q367 => ?_
  obtain ⟨rfl, hh367⟩ := q367
  obtain rfl := hh367.symm
  show Wp pG e below _ T367 (mkF m 310 _ [(.int (111 : Int32))])
  refine f_bipush A367 at_310 (pc' := 312) rfl 111 rfl ?_
  refine f_icN A367 at_312 (teq (by decide : (111 : Int32) = (111 : Int32))).2 (pc' := 315) rfl ?_
  refine f_aload A367 at_315 (pc' := 317) rfl rfl rfl ?_
  refine f_iload A367 at_317 (pc' := 319) rfl rfl ?_
  refine f_iconst A367 at_319 (pc' := 320) rfl 4 rfl ?_
  refine f_iadd A367 at_320 (pc' := 321) rfl (7 : Int32) (by decide) ?_
  refine f_callV A367 (a := a) at_321 (pc' := 324) rfl (wd hw 187 rfl) (wd hw 188 rfl) (nfS A367 (wd hw 190 rfl)) (wd hw 190 rfl) (wd hw 189 rfl) (by decide) G.exa pd25 [(.int (7 : Int32))] [] rfl rfl rfl 0 (Nat.le_of_eq rfl) (payCh (W := 0) A367 hw (wd hw 1 rfl) G latS O2 P5 O4 rG3 7 (by rw [hL]; omega) rfl (by decide) (by decide)) (kc := 0) (ks := 0) (by decide) (by decide) all0 (fun _ => sf0) fun v368 T368 h368 L368 A368 K368 q368 => ?_
  obtain ⟨rfl, hh368⟩ := q368
  obtain rfl := hh368.symm
  show Wp pG e below _ T368 (mkF m 324 _ [(.int (107 : Int32))])
  refine f_bipush A368 at_324 (pc' := 326) rfl 107 rfl ?_
  refine f_icN A368 at_326 (teq (by decide : (107 : Int32) = (107 : Int32))).2 (pc' := 329) rfl ?_
  refine f_aload A368 at_329 (pc' := 331) rfl rfl rfl ?_
  refine f_iload A368 at_331 (pc' := 333) rfl rfl ?_
  refine f_iconst A368 at_333 (pc' := 334) rfl 5 rfl ?_
  refine f_iadd A368 at_334 (pc' := 335) rfl (8 : Int32) (by decide) ?_
  refine f_callV A368 (a := a) at_335 (pc' := 338) rfl (wd hw 187 rfl) (wd hw 188 rfl) (nfS A368 (wd hw 190 rfl)) (wd hw 190 rfl) (wd hw 189 rfl) (by decide) G.exa pd25 [(.int (8 : Int32))] [] rfl rfl rfl 0 (Nat.le_of_eq rfl) (payCh (W := 0) A368 hw (wd hw 1 rfl) G latS O2 P5 O4 rG3 8 (by rw [hL]; omega) rfl (by decide) (by decide)) (kc := 0) (ks := 0) (by decide) (by decide) all0 (fun _ => sf0) fun v369 T369 h369 L369 A369 K369 q369 => ?_
  obtain ⟨rfl, hh369⟩ := q369
  obtain rfl := hh369.symm
  show Wp pG e below _ T369 (mkF m 338 _ [(.int (101 : Int32))])
  refine f_bipush A369 at_338 (pc' := 340) rfl 101 rfl ?_
  refine f_icN A369 at_340 (teq (by decide : (101 : Int32) = (101 : Int32))).2 (pc' := 343) rfl ?_
  refine f_aload A369 at_343 (pc' := 345) rfl rfl rfl ?_
  refine f_iload A369 at_345 (pc' := 347) rfl rfl ?_
  refine f_bipush A369 at_347 (pc' := 349) rfl 6 rfl ?_
  refine f_iadd A369 at_349 (pc' := 350) rfl (9 : Int32) (by decide) ?_
  refine f_callV A369 (a := a) at_350 (pc' := 353) rfl (wd hw 187 rfl) (wd hw 188 rfl) (nfS A369 (wd hw 190 rfl)) (wd hw 190 rfl) (wd hw 189 rfl) (by decide) G.exa pd25 [(.int (9 : Int32))] [] rfl rfl rfl 0 (Nat.le_of_eq rfl) (payCh (W := 0) A369 hw (wd hw 1 rfl) G latS O2 P5 O4 rG3 9 (by rw [hL]; omega) rfl (by decide) (by decide)) (kc := 0) (ks := 0) (by decide) (by decide) all0 (fun _ => sf0) fun v370 T370 h370 L370 A370 K370 q370 => ?_
  obtain ⟨rfl, hh370⟩ := q370
  obtain rfl := hh370.symm
  show Wp pG e below _ T370 (mkF m 353 _ [(.int (110 : Int32))])
  refine f_bipush A370 at_353 (pc' := 355) rfl 110 rfl ?_
  refine f_icN A370 at_355 (teq (by decide : (110 : Int32) = (110 : Int32))).2 (pc' := 358) rfl ?_
  refine f_aload A370 at_358 (pc' := 360) rfl rfl rfl ?_
  refine f_iload A370 at_360 (pc' := 362) rfl rfl ?_
  refine f_bipush A370 at_362 (pc' := 364) rfl 7 rfl ?_
  refine f_iadd A370 at_364 (pc' := 365) rfl (10 : Int32) (by decide) ?_
  refine f_callV A370 (a := a) at_365 (pc' := 368) rfl (wd hw 187 rfl) (wd hw 188 rfl) (nfS A370 (wd hw 190 rfl)) (wd hw 190 rfl) (wd hw 189 rfl) (by decide) G.exa pd25 [(.int (10 : Int32))] [] rfl rfl rfl 0 (Nat.le_of_eq rfl) (payCh (W := 0) A370 hw (wd hw 1 rfl) G latS O2 P5 O4 rG3 10 (by rw [hL]; omega) rfl (by decide) (by decide)) (kc := 0) (ks := 0) (by decide) (by decide) all0 (fun _ => sf0) fun v371 T371 h371 L371 A371 K371 q371 => ?_
  obtain ⟨rfl, hh371⟩ := q371
  obtain rfl := hh371.symm
  show Wp pG e below _ T371 (mkF m 368 _ [(.int (32 : Int32))])
  refine f_bipush A371 at_368 (pc' := 370) rfl 32 rfl ?_
  refine f_icY A371 at_370 (teq (by decide : (32 : Int32) = (32 : Int32))).1 (pc' := 375) (by decide) (by decide) ?_
  refine f_iload A371 at_375 (pc' := 377) rfl rfl ?_
  refine f_iconst A371 at_377 (pc' := 378) rfl 1 rfl ?_
  refine f_icN A371 at_378 (teq (by decide : (1 : Int32) = (1 : Int32))).2 (pc' := 381) rfl ?_
  refine f_aload A371 at_381 (pc' := 383) rfl rfl rfl ?_
  refine f_iload A371 at_383 (pc' := 385) rfl rfl ?_
  refine f_bipush A371 at_385 (pc' := 387) rfl 8 rfl ?_
  refine f_iadd A371 at_387 (pc' := 388) rfl (11 : Int32) (by decide) ?_
  refine f_callV A371 (a := a) at_388 (pc' := 391) rfl (wd hw 187 rfl) (wd hw 188 rfl) (nfS A371 (wd hw 190 rfl)) (wd hw 190 rfl) (wd hw 189 rfl) (by decide) G.exa pd25 [(.int (11 : Int32))] [] rfl rfl rfl 0 (Nat.le_of_eq rfl) (payCh (W := 0) A371 hw (wd hw 1 rfl) G latS O2 P5 O4 rG3 11 (by rw [hL]; omega) rfl (by decide) (by decide)) (kc := 0) (ks := 0) (by decide) (by decide) all0 (fun _ => sf0) fun v372 T372 h372 L372 A372 K372 q372 => ?_
  obtain ⟨rfl, hh372⟩ := q372
  obtain rfl := hh372.symm
  show Wp pG e below _ T372 (mkF m 391 _ [(.int (45 : Int32))])
  refine f_bipush A372 at_391 (pc' := 393) rfl 45 rfl ?_
  refine f_icY A372 at_393 (teq (by decide : (45 : Int32) = (45 : Int32))).1 (pc' := 398) (by decide) (by decide) ?_
  refine f_aload A372 at_398 (pc' := 400) rfl rfl rfl ?_
  refine f_callV A372 (a := a) at_400 (pc' := 403) rfl (wd hw 186 rfl) (wd hw 75 rfl) (nfS A372 (wd hw 77 rfl)) (wd hw 77 rfl) (wd hw 76 rfl) (by decide) G.exa pd5 [] [] rfl rfl rfl 0 (Nat.le_of_eq rfl) (payLen (W := 0) A372 hw (wd hw 1 rfl) G O2 P5 (by decide) (by decide)) (kc := 0) (ks := 0) (by decide) (by decide) all0 (fun _ => sf0) fun v373 T373 h373 L373 A373 K373 q373 => ?_
  obtain ⟨rfl, hh373⟩ := q373
  obtain rfl := hh373.symm
  show Wp pG e below _ T373 (mkF m 403 _ [(.int (Int32.ofNat (c0 :: c1 :: c2 :: (32 : Int32) :: (40 : Int32) :: (116 : Int32) :: (111 : Int32) :: (107 : Int32) :: (101 : Int32) :: (110 : Int32) :: (32 : Int32) :: (45 : Int32) :: (dlist n dn ++ [(41 : Int32)])).length))])
  refine f_iconst A373 at_403 (pc' := 404) rfl 2 rfl ?_
  refine f_isub A373 at_404 (pc' := 405) rfl (Int32.ofNat (12 + dn + 1 - 2)) (by rw [hL, show 13 + dn = 12 + dn + 1 by omega]; exact ofn_sub (n := 2) (by omega) (by omega)) ?_
  refine f_istore A373 at_405 (pc' := 407) rfl (L' := #[.val (.long tk), .second, .val (.int i1), .val (.int i2), .val (.int i3), .val (.int ls), .val (.int c0), .val (.int c1), .val (.int c2), .val (.int (3 : Int32)), .val (.ref y), .val (.ref a), .val (.int (1 : Int32)), .val (.long tk), .second, .val (.int (Int32.ofNat dn)), .val (.int (Int32.ofNat (12 + dn + 1 - 2)))]) rfl ?_
  refine f_aload A373 at_407 (pc' := 409) rfl rfl rfl ?_
  refine f_iload A373 at_409 (pc' := 411) rfl rfl ?_
  refine f_iconst A373 at_411 (pc' := 412) rfl 1 rfl ?_
  refine f_iadd A373 at_412 (pc' := 413) rfl (Int32.ofNat (12 + dn)) (by rw [ofn_one (by omega), show 12 + dn + 1 - 2 + 1 = 12 + dn by omega]) ?_
  refine f_callV A373 (a := a) at_413 (pc' := 416) rfl (wd hw 187 rfl) (wd hw 188 rfl) (nfS A373 (wd hw 190 rfl)) (wd hw 190 rfl) (wd hw 189 rfl) (by decide) G.exa pd25 [(.int (Int32.ofNat (12 + dn)))] [] rfl rfl rfl 0 (Nat.le_of_eq rfl) (payCh (W := 0) A373 hw (wd hw 1 rfl) G latS O2 P5 O4 rG3 (12 + dn) (by rw [hL]; omega) rfl (by decide) (by decide)) (kc := 0) (ks := 0) (by decide) (by decide) all0 (fun _ => sf0) fun v374 T374 h374 L374 A374 K374 q374 => ?_
  obtain ⟨e374, hh374⟩ := q374
  obtain rfl := hh374.symm
  rw [hlast] at e374
  subst e374
  show Wp pG e below _ T374 (mkF m 416 _ [(.int (41 : Int32))])
  refine f_bipush A374 at_416 (pc' := 418) rfl 41 rfl ?_
  refine f_icY A374 at_418 (teq (by decide : (41 : Int32) = (41 : Int32))).1 (pc' := 423) (by decide) (by decide) ?_
  exact m_dgt l Z a0 hw tk i1 i2 i3 ls c0 c1 c2 _ _ y a t tk n dn 12 [c0, c1, c2, (32 : Int32), (40 : Int32), (116 : Int32), (111 : Int32), (107 : Int32), (101 : Int32), (110 : Int32), (32 : Int32), (45 : Int32)] zc O2 P5 fm O4 rG3 h0 n0 hEL hlk hret _ _ _ _ A374 Kh G latS hn hq hdn20 rfl (by decide)
set_option maxRecDepth 65536 in
set_option maxHeartbeats 40000000 in
theorem m_tl3p (l : Launch) (Z : State) (a0 : Array Value) (hw : ∀ d ∈ tables_1, d.before a0 Z = true) (tk : Int64) (i1 i2 i3 ls : Int32) (c0 c1 c2 : Int32) (y a t : Addr) (n dn : Nat) (zc : Int32) (O2 : Sta Z Z.heap "java/lang/String" "COMPACT_STRINGS" "Z" (.int zc)) (P5 : ¬ zc = 0) (fm : Value) (O4 : Sta Z Z.heap "jdk/internal/util/Preconditions" "SIOOBE_FORMATTER" "Ljava/util/function/BiFunction;" fm) (rG3 : fm.isRef = true) (h0 : Heap) (n0 : Nat) (hEL : EW Z a0 ELs) {pG : Program} {e : Env} {s : State} {m : MethodId} {below : List Frame} {meth : Method} {cO : Code} (hlk : meth.locks = false) (hret : meth.sig.returnType = ret) (vm : Vm) (T : State) (h : Heap) (locs : List Loc) (A : WS pG l e room_1 s m #[(.long tk), (.int i1), (.int i2), (.int i3), (.int ls)] below meth cO Z ELs n0 x.cls code maxLocals true vm T h locs 32 3392) (Kh : Keep h0 h []) (G0 : Str Z h a t ([c0, c1, c2] ++ [(32 : Int32), (40 : Int32), (116 : Int32), (111 : Int32), (107 : Int32), (101 : Int32), (110 : Int32), (32 : Int32)] ++ ldL tk n ++ [(41 : Int32)])) (r0 : ¬ c0 < 0 ∧ ¬ (255 : Int32) < c0) (r1 : ¬ c1 < 0 ∧ ¬ (255 : Int32) < c1) (r2 : ¬ c2 < 0 ∧ ¬ (255 : Int32) < c2) (hn : n ≤ 2 ^ 63) (hx : (if tk < 0 then tk else -tk) = Jvm.Free.SBG.negL n) (hdn : Jvm.Free.SBG.digitsL n = dn) (hdn0 : 1 ≤ dn) (hdn20 : dn ≤ 20) (hneg : ¬ tk < 0) :
    Wp pG e below (PW s Z ELs n0 h0 [] (fun v h => v = some (.int 1)) room_1.cells room_1.slots) T (mkF m 150 #[.val (.long tk), .second, .val (.int i1), .val (.int i2), .val (.int i3), .val (.int ls), .val (.int c0), .val (.int c1), .val (.int c2), .val (.int (3 : Int32)), .val (.ref y), .val (.ref a), .unset, .unset, .unset, .unset, .unset] []) := by
  have G : Str Z h a t (c0 :: c1 :: c2 :: (32 : Int32) :: (40 : Int32) :: (116 : Int32) :: (111 : Int32) :: (107 : Int32) :: (101 : Int32) :: (110 : Int32) :: (32 : Int32) :: (dlist n dn ++ [(41 : Int32)])) := by
    rw [ldL, if_neg hneg, hdn] at G0; exact G0
  have hL : (c0 :: c1 :: c2 :: (32 : Int32) :: (40 : Int32) :: (116 : Int32) :: (111 : Int32) :: (107 : Int32) :: (101 : Int32) :: (110 : Int32) :: (32 : Int32) :: (dlist n dn ++ [(41 : Int32)])).length = 12 + dn := by
    show ([c0, c1, c2, (32 : Int32), (40 : Int32), (116 : Int32), (111 : Int32), (107 : Int32), (101 : Int32), (110 : Int32), (32 : Int32)] ++ (dlist n dn ++ [(41 : Int32)])).length = _
    rw [List.length_append, List.length_append, dlist_len]; show 11 + (dn + 1) = _; omega
  have hlast : (c0 :: c1 :: c2 :: (32 : Int32) :: (40 : Int32) :: (116 : Int32) :: (111 : Int32) :: (107 : Int32) :: (101 : Int32) :: (110 : Int32) :: (32 : Int32) :: (dlist n dn ++ [(41 : Int32)])).getD (11 + dn) 0 = 41 := getD_last (A := [c0, c1, c2, (32 : Int32), (40 : Int32), (116 : Int32), (111 : Int32), (107 : Int32), (101 : Int32), (110 : Int32), (32 : Int32)]) (D := dlist n dn) (by rw [dlist_len]; rfl)
  have hq : -tk = Jvm.Free.SBG.negL n := by rw [if_neg hneg] at hx; exact hx
  have latS : ∀ c ∈ (c0 :: c1 :: c2 :: (32 : Int32) :: (40 : Int32) :: (116 : Int32) :: (111 : Int32) :: (107 : Int32) :: (101 : Int32) :: (110 : Int32) :: (32 : Int32) :: (dlist n dn ++ [(41 : Int32)])), ¬ (255 : Int32) < c := lat2 (lc r0 (lc r1 (lc r2 (lc (by decide) (lc (by decide) (lc (by decide) (lc (by decide) (lc (by decide) (lc (by decide) (lc (by decide) (lc (by decide) (la dlist_rng (lc (by decide) ln)))))))))))))
  have hlt : ¬ lcmpW tk 0 < 0 := fun z => hneg ((lw_lt _ _).mp z)
  refine f_lloadN A at_150 (pc' := 151) rfl rfl ?_
  refine f_lconst A at_151 (pc' := 152) rfl 0 rfl ?_
  refine f_lcmp A at_152 (pc' := 153) rfl (lcmpW tk (0 : Int64)) rfl ?_
  refine f_ifY A at_153 ((if0 _ _).trans (flt hlt).2.1) (pc' := 160) (by decide) (by decide) ?_
  refine f_iconst A at_160 (pc' := 161) rfl 0 rfl ?_
  refine f_istore A at_161 (pc' := 163) rfl (L' := #[.val (.long tk), .second, .val (.int i1), .val (.int i2), .val (.int i3), .val (.int ls), .val (.int c0), .val (.int c1), .val (.int c2), .val (.int (3 : Int32)), .val (.ref y), .val (.ref a), .val (.int (0 : Int32)), .unset, .unset, .unset, .unset]) rfl ?_
  refine f_lloadN A at_163 (pc' := 164) rfl rfl ?_
  refine f_lconst A at_164 (pc' := 165) rfl 0 rfl ?_
  refine f_lcmp A at_165 (pc' := 166) rfl (lcmpW tk (0 : Int64)) rfl ?_
  refine f_ifY A at_166 ((if0 _ _).trans (flt hlt).2.1) (pc' := 173) (by decide) (by decide) ?_
  refine f_lloadN A at_173 (pc' := 174) rfl rfl ?_
  refine f_lneg A at_174 (pc' := 175) rfl (-tk) rfl ?_
  refine f_lstore A at_175 (pc' := 177) rfl (L' := #[.val (.long tk), .second, .val (.int i1), .val (.int i2), .val (.int i3), .val (.int ls), .val (.int c0), .val (.int c1), .val (.int c2), .val (.int (3 : Int32)), .val (.ref y), .val (.ref a), .val (.int (0 : Int32)), .val (.long (-tk)), .second, .unset, .unset]) rfl ?_
  refine f_lload A at_177 (pc' := 179) rfl rfl ?_
  refine f_callS A at_179 (pc' := 182) rfl (wd hw 181 rfl) (wd hw 182 rfl) (wd hw 183 rfl) (wd hw 184 rfl) (by decide) pd18 [(.long (-tk))] [] rfl rfl rfl 0 (Nat.le_of_eq rfl) (CN.pay (W := 0) A (m_dgs l Z a0 hw (-tk) n h n0 A.old hn hq) (wd hw 184 rfl) (wd hw 183 rfl) (by decide) (by decide)) (kc := 0) (ks := 0) (by decide) (by decide) all0 (fun _ => sf0) fun v375 T375 h375 L375 A375 K375 q375 => ?_
  obtain ⟨rfl, hh375⟩ := q375
  obtain rfl := hh375.symm
  rw [hdn]
  show Wp pG e below _ T375 (mkF m 182 _ [(.int (Int32.ofNat dn))])
  refine f_istore A375 at_182 (pc' := 184) rfl (L' := #[.val (.long tk), .second, .val (.int i1), .val (.int i2), .val (.int i3), .val (.int ls), .val (.int c0), .val (.int c1), .val (.int c2), .val (.int (3 : Int32)), .val (.ref y), .val (.ref a), .val (.int (0 : Int32)), .val (.long (-tk)), .second, .val (.int (Int32.ofNat dn)), .unset]) rfl ?_
  refine f_aload A375 at_184 (pc' := 186) rfl rfl rfl ?_
  refine f_callV A375 (a := a) at_186 (pc' := 189) rfl (wd hw 186 rfl) (wd hw 75 rfl) (nfS A375 (wd hw 77 rfl)) (wd hw 77 rfl) (wd hw 76 rfl) (by decide) G.exa pd5 [] [] rfl rfl rfl 0 (Nat.le_of_eq rfl) (payLen (W := 0) A375 hw (wd hw 1 rfl) G O2 P5 (by decide) (by decide)) (kc := 0) (ks := 0) (by decide) (by decide) all0 (fun _ => sf0) fun v376 T376 h376 L376 A376 K376 q376 => ?_
  obtain ⟨rfl, hh376⟩ := q376
  obtain rfl := hh376.symm
  show Wp pG e below _ T376 (mkF m 189 _ [(.int (Int32.ofNat (c0 :: c1 :: c2 :: (32 : Int32) :: (40 : Int32) :: (116 : Int32) :: (111 : Int32) :: (107 : Int32) :: (101 : Int32) :: (110 : Int32) :: (32 : Int32) :: (dlist n dn ++ [(41 : Int32)])).length))])
  refine f_iload A376 at_189 (pc' := 191) rfl rfl ?_
  refine f_bipush A376 at_191 (pc' := 193) rfl 9 rfl ?_
  refine f_iadd A376 at_193 (pc' := 194) rfl (12 : Int32) (by decide) ?_
  refine f_iload A376 at_194 (pc' := 196) rfl rfl ?_
  refine f_iadd A376 at_196 (pc' := 197) rfl (12 : Int32) (by decide) ?_
  refine f_iload A376 at_197 (pc' := 199) rfl rfl ?_
  refine f_iadd A376 at_199 (pc' := 200) rfl ((12 : Int32) + (Int32.ofNat dn)) rfl ?_
  refine f_icY A376 at_200 (teq (by rw [hL]; exact (ofn_add (i := 12) (n := dn) (by omega)).symm)).1 (pc' := 205) (by decide) (by decide) ?_
  refine f_iload A376 at_205 (pc' := 207) rfl rfl ?_
  refine f_ifN A376 at_207 ((if0 _ _).trans (tlt (by decide : (0 : Int32) < (3 : Int32))).2.2.2) (pc' := 210) rfl ?_
  refine f_aload A376 at_210 (pc' := 212) rfl rfl rfl ?_
  refine f_iconst A376 at_212 (pc' := 213) rfl 0 rfl ?_
  refine f_callV A376 (a := a) at_213 (pc' := 216) rfl (wd hw 187 rfl) (wd hw 188 rfl) (nfS A376 (wd hw 190 rfl)) (wd hw 190 rfl) (wd hw 189 rfl) (by decide) G.exa pd25 [(.int (0 : Int32))] [] rfl rfl rfl 0 (Nat.le_of_eq rfl) (payCh (W := 0) A376 hw (wd hw 1 rfl) G latS O2 P5 O4 rG3 0 (by rw [hL]; omega) rfl (by decide) (by decide)) (kc := 0) (ks := 0) (by decide) (by decide) all0 (fun _ => sf0) fun v377 T377 h377 L377 A377 K377 q377 => ?_
  obtain ⟨rfl, hh377⟩ := q377
  obtain rfl := hh377.symm
  show Wp pG e below _ T377 (mkF m 216 _ [(.int c0)])
  refine f_iload A377 at_216 (pc' := 218) rfl rfl ?_
  refine f_icY A377 at_218 (teq rfl).1 (pc' := 223) (by decide) (by decide) ?_
  refine f_iload A377 at_223 (pc' := 225) rfl rfl ?_
  refine f_iconst A377 at_225 (pc' := 226) rfl 1 rfl ?_
  refine f_icN A377 at_226 (tlt (by decide : (1 : Int32) < (3 : Int32))).2.2.2 (pc' := 229) rfl ?_
  refine f_aload A377 at_229 (pc' := 231) rfl rfl rfl ?_
  refine f_iconst A377 at_231 (pc' := 232) rfl 1 rfl ?_
  refine f_callV A377 (a := a) at_232 (pc' := 235) rfl (wd hw 187 rfl) (wd hw 188 rfl) (nfS A377 (wd hw 190 rfl)) (wd hw 190 rfl) (wd hw 189 rfl) (by decide) G.exa pd25 [(.int (1 : Int32))] [] rfl rfl rfl 0 (Nat.le_of_eq rfl) (payCh (W := 0) A377 hw (wd hw 1 rfl) G latS O2 P5 O4 rG3 1 (by rw [hL]; omega) rfl (by decide) (by decide)) (kc := 0) (ks := 0) (by decide) (by decide) all0 (fun _ => sf0) fun v378 T378 h378 L378 A378 K378 q378 => ?_
  obtain ⟨rfl, hh378⟩ := q378
  obtain rfl := hh378.symm
  show Wp pG e below _ T378 (mkF m 235 _ [(.int c1)])
  refine f_iload A378 at_235 (pc' := 237) rfl rfl ?_
  refine f_icY A378 at_237 (teq rfl).1 (pc' := 242) (by decide) (by decide) ?_
  refine f_iload A378 at_242 (pc' := 244) rfl rfl ?_
  refine f_iconst A378 at_244 (pc' := 245) rfl 2 rfl ?_
  refine f_icN A378 at_245 (tlt (by decide : (2 : Int32) < (3 : Int32))).2.2.2 (pc' := 248) rfl ?_
  refine f_aload A378 at_248 (pc' := 250) rfl rfl rfl ?_
  refine f_iconst A378 at_250 (pc' := 251) rfl 2 rfl ?_
  refine f_callV A378 (a := a) at_251 (pc' := 254) rfl (wd hw 187 rfl) (wd hw 188 rfl) (nfS A378 (wd hw 190 rfl)) (wd hw 190 rfl) (wd hw 189 rfl) (by decide) G.exa pd25 [(.int (2 : Int32))] [] rfl rfl rfl 0 (Nat.le_of_eq rfl) (payCh (W := 0) A378 hw (wd hw 1 rfl) G latS O2 P5 O4 rG3 2 (by rw [hL]; omega) rfl (by decide) (by decide)) (kc := 0) (ks := 0) (by decide) (by decide) all0 (fun _ => sf0) fun v379 T379 h379 L379 A379 K379 q379 => ?_
  obtain ⟨rfl, hh379⟩ := q379
  obtain rfl := hh379.symm
  show Wp pG e below _ T379 (mkF m 254 _ [(.int c2)])
  refine f_iload A379 at_254 (pc' := 256) rfl rfl ?_
  refine f_icY A379 at_256 (teq rfl).1 (pc' := 261) (by decide) (by decide) ?_
  refine f_aload A379 at_261 (pc' := 263) rfl rfl rfl ?_
  refine f_iload A379 at_263 (pc' := 265) rfl rfl ?_
  refine f_callV A379 (a := a) at_265 (pc' := 268) rfl (wd hw 187 rfl) (wd hw 188 rfl) (nfS A379 (wd hw 190 rfl)) (wd hw 190 rfl) (wd hw 189 rfl) (by decide) G.exa pd25 [(.int (3 : Int32))] [] rfl rfl rfl 0 (Nat.le_of_eq rfl) (payCh (W := 0) A379 hw (wd hw 1 rfl) G latS O2 P5 O4 rG3 3 (by rw [hL]; omega) rfl (by decide) (by decide)) (kc := 0) (ks := 0) (by decide) (by decide) all0 (fun _ => sf0) fun v380 T380 h380 L380 A380 K380 q380 => ?_
  obtain ⟨rfl, hh380⟩ := q380
  obtain rfl := hh380.symm
  show Wp pG e below _ T380 (mkF m 268 _ [(.int (32 : Int32))])
  refine f_bipush A380 at_268 (pc' := 270) rfl 32 rfl ?_
  refine f_icN A380 at_270 (teq (by decide : (32 : Int32) = (32 : Int32))).2 (pc' := 273) rfl ?_
  refine f_aload A380 at_273 (pc' := 275) rfl rfl rfl ?_
  refine f_iload A380 at_275 (pc' := 277) rfl rfl ?_
  refine f_iconst A380 at_277 (pc' := 278) rfl 1 rfl ?_
  refine f_iadd A380 at_278 (pc' := 279) rfl (4 : Int32) (by decide) ?_
  refine f_callV A380 (a := a) at_279 (pc' := 282) rfl (wd hw 187 rfl) (wd hw 188 rfl) (nfS A380 (wd hw 190 rfl)) (wd hw 190 rfl) (wd hw 189 rfl) (by decide) G.exa pd25 [(.int (4 : Int32))] [] rfl rfl rfl 0 (Nat.le_of_eq rfl) (payCh (W := 0) A380 hw (wd hw 1 rfl) G latS O2 P5 O4 rG3 4 (by rw [hL]; omega) rfl (by decide) (by decide)) (kc := 0) (ks := 0) (by decide) (by decide) all0 (fun _ => sf0) fun v381 T381 h381 L381 A381 K381 q381 => ?_
  obtain ⟨rfl, hh381⟩ := q381
  obtain rfl := hh381.symm
  show Wp pG e below _ T381 (mkF m 282 _ [(.int (40 : Int32))])
  refine f_bipush A381 at_282 (pc' := 284) rfl 40 rfl ?_
  refine f_icN A381 at_284 (teq (by decide : (40 : Int32) = (40 : Int32))).2 (pc' := 287) rfl ?_
  refine f_aload A381 at_287 (pc' := 289) rfl rfl rfl ?_
  refine f_iload A381 at_289 (pc' := 291) rfl rfl ?_
  refine f_iconst A381 at_291 (pc' := 292) rfl 2 rfl ?_
  refine f_iadd A381 at_292 (pc' := 293) rfl (5 : Int32) (by decide) ?_
  refine f_callV A381 (a := a) at_293 (pc' := 296) rfl (wd hw 187 rfl) (wd hw 188 rfl) (nfS A381 (wd hw 190 rfl)) (wd hw 190 rfl) (wd hw 189 rfl) (by decide) G.exa pd25 [(.int (5 : Int32))] [] rfl rfl rfl 0 (Nat.le_of_eq rfl) (payCh (W := 0) A381 hw (wd hw 1 rfl) G latS O2 P5 O4 rG3 5 (by rw [hL]; omega) rfl (by decide) (by decide)) (kc := 0) (ks := 0) (by decide) (by decide) all0 (fun _ => sf0) fun v382 T382 h382 L382 A382 K382 q382 => ?_
  obtain ⟨rfl, hh382⟩ := q382
  obtain rfl := hh382.symm
  show Wp pG e below _ T382 (mkF m 296 _ [(.int (116 : Int32))])
  refine f_bipush A382 at_296 (pc' := 298) rfl 116 rfl ?_
  refine f_icN A382 at_298 (teq (by decide : (116 : Int32) = (116 : Int32))).2 (pc' := 301) rfl ?_
  refine f_aload A382 at_301 (pc' := 303) rfl rfl rfl ?_
  refine f_iload A382 at_303 (pc' := 305) rfl rfl ?_
  refine f_iconst A382 at_305 (pc' := 306) rfl 3 rfl ?_
  refine f_iadd A382 at_306 (pc' := 307) rfl (6 : Int32) (by decide) ?_
  refine f_callV A382 (a := a) at_307 (pc' := 310) rfl (wd hw 187 rfl) (wd hw 188 rfl) (nfS A382 (wd hw 190 rfl)) (wd hw 190 rfl) (wd hw 189 rfl) (by decide) G.exa pd25 [(.int (6 : Int32))] [] rfl rfl rfl 0 (Nat.le_of_eq rfl) (payCh (W := 0) A382 hw (wd hw 1 rfl) G latS O2 P5 O4 rG3 6 (by rw [hL]; omega) rfl (by decide) (by decide)) (kc := 0) (ks := 0) (by decide) (by decide) all0 (fun _ => sf0) fun v383 T383 h383 L383 A383 K383 q383 => ?_
  obtain ⟨rfl, hh383⟩ := q383
  obtain rfl := hh383.symm
  show Wp pG e below _ T383 (mkF m 310 _ [(.int (111 : Int32))])
  refine f_bipush A383 at_310 (pc' := 312) rfl 111 rfl ?_
  refine f_icN A383 at_312 (teq (by decide : (111 : Int32) = (111 : Int32))).2 (pc' := 315) rfl ?_
  refine f_aload A383 at_315 (pc' := 317) rfl rfl rfl ?_
  refine f_iload A383 at_317 (pc' := 319) rfl rfl ?_
  refine f_iconst A383 at_319 (pc' := 320) rfl 4 rfl ?_
  refine f_iadd A383 at_320 (pc' := 321) rfl (7 : Int32) (by decide) ?_
  refine f_callV A383 (a := a) at_321 (pc' := 324) rfl (wd hw 187 rfl) (wd hw 188 rfl) (nfS A383 (wd hw 190 rfl)) (wd hw 190 rfl) (wd hw 189 rfl) (by decide) G.exa pd25 [(.int (7 : Int32))] [] rfl rfl rfl 0 (Nat.le_of_eq rfl) (payCh (W := 0) A383 hw (wd hw 1 rfl) G latS O2 P5 O4 rG3 7 (by rw [hL]; omega) rfl (by decide) (by decide)) (kc := 0) (ks := 0) (by decide) (by decide) all0 (fun _ => sf0) fun v384 T384 h384 L384 A384 K384 q384 => ?_
  obtain ⟨rfl, hh384⟩ := q384
  obtain rfl := hh384.symm
  show Wp pG e below _ T384 (mkF m 324 _ [(.int (107 : Int32))])
  refine f_bipush A384 at_324 (pc' := 326) rfl 107 rfl ?_
  refine f_icN A384 at_326 (teq (by decide : (107 : Int32) = (107 : Int32))).2 (pc' := 329) rfl ?_
  refine f_aload A384 at_329 (pc' := 331) rfl rfl rfl ?_
  refine f_iload A384 at_331 (pc' := 333) rfl rfl ?_
  refine f_iconst A384 at_333 (pc' := 334) rfl 5 rfl ?_
  refine f_iadd A384 at_334 (pc' := 335) rfl (8 : Int32) (by decide) ?_
  refine f_callV A384 (a := a) at_335 (pc' := 338) rfl (wd hw 187 rfl) (wd hw 188 rfl) (nfS A384 (wd hw 190 rfl)) (wd hw 190 rfl) (wd hw 189 rfl) (by decide) G.exa pd25 [(.int (8 : Int32))] [] rfl rfl rfl 0 (Nat.le_of_eq rfl) (payCh (W := 0) A384 hw (wd hw 1 rfl) G latS O2 P5 O4 rG3 8 (by rw [hL]; omega) rfl (by decide) (by decide)) (kc := 0) (ks := 0) (by decide) (by decide) all0 (fun _ => sf0) fun v385 T385 h385 L385 A385 K385 q385 => ?_
  obtain ⟨rfl, hh385⟩ := q385
  obtain rfl := hh385.symm
  show Wp pG e below _ T385 (mkF m 338 _ [(.int (101 : Int32))])
  refine f_bipush A385 at_338 (pc' := 340) rfl 101 rfl ?_
  refine f_icN A385 at_340 (teq (by decide : (101 : Int32) = (101 : Int32))).2 (pc' := 343) rfl ?_
  refine f_aload A385 at_343 (pc' := 345) rfl rfl rfl ?_
  refine f_iload A385 at_345 (pc' := 347) rfl rfl ?_
  refine f_bipush A385 at_347 (pc' := 349) rfl 6 rfl ?_
  refine f_iadd A385 at_349 (pc' := 350) rfl (9 : Int32) (by decide) ?_
  refine f_callV A385 (a := a) at_350 (pc' := 353) rfl (wd hw 187 rfl) (wd hw 188 rfl) (nfS A385 (wd hw 190 rfl)) (wd hw 190 rfl) (wd hw 189 rfl) (by decide) G.exa pd25 [(.int (9 : Int32))] [] rfl rfl rfl 0 (Nat.le_of_eq rfl) (payCh (W := 0) A385 hw (wd hw 1 rfl) G latS O2 P5 O4 rG3 9 (by rw [hL]; omega) rfl (by decide) (by decide)) (kc := 0) (ks := 0) (by decide) (by decide) all0 (fun _ => sf0) fun v386 T386 h386 L386 A386 K386 q386 => ?_
  obtain ⟨rfl, hh386⟩ := q386
  obtain rfl := hh386.symm
  show Wp pG e below _ T386 (mkF m 353 _ [(.int (110 : Int32))])
  refine f_bipush A386 at_353 (pc' := 355) rfl 110 rfl ?_
  refine f_icN A386 at_355 (teq (by decide : (110 : Int32) = (110 : Int32))).2 (pc' := 358) rfl ?_
  refine f_aload A386 at_358 (pc' := 360) rfl rfl rfl ?_
  refine f_iload A386 at_360 (pc' := 362) rfl rfl ?_
  refine f_bipush A386 at_362 (pc' := 364) rfl 7 rfl ?_
  refine f_iadd A386 at_364 (pc' := 365) rfl (10 : Int32) (by decide) ?_
  refine f_callV A386 (a := a) at_365 (pc' := 368) rfl (wd hw 187 rfl) (wd hw 188 rfl) (nfS A386 (wd hw 190 rfl)) (wd hw 190 rfl) (wd hw 189 rfl) (by decide) G.exa pd25 [(.int (10 : Int32))] [] rfl rfl rfl 0 (Nat.le_of_eq rfl) (payCh (W := 0) A386 hw (wd hw 1 rfl) G latS O2 P5 O4 rG3 10 (by rw [hL]; omega) rfl (by decide) (by decide)) (kc := 0) (ks := 0) (by decide) (by decide) all0 (fun _ => sf0) fun v387 T387 h387 L387 A387 K387 q387 => ?_
  obtain ⟨rfl, hh387⟩ := q387
  obtain rfl := hh387.symm
  show Wp pG e below _ T387 (mkF m 368 _ [(.int (32 : Int32))])
  refine f_bipush A387 at_368 (pc' := 370) rfl 32 rfl ?_
  refine f_icY A387 at_370 (teq (by decide : (32 : Int32) = (32 : Int32))).1 (pc' := 375) (by decide) (by decide) ?_
  refine f_iload A387 at_375 (pc' := 377) rfl rfl ?_
  refine f_iconst A387 at_377 (pc' := 378) rfl 1 rfl ?_
  refine f_icY A387 at_378 (feq (by decide : ¬ (0 : Int32) = (1 : Int32))).2 (pc' := 398) (by decide) (by decide) ?_
  refine f_aload A387 at_398 (pc' := 400) rfl rfl rfl ?_
  refine f_callV A387 (a := a) at_400 (pc' := 403) rfl (wd hw 186 rfl) (wd hw 75 rfl) (nfS A387 (wd hw 77 rfl)) (wd hw 77 rfl) (wd hw 76 rfl) (by decide) G.exa pd5 [] [] rfl rfl rfl 0 (Nat.le_of_eq rfl) (payLen (W := 0) A387 hw (wd hw 1 rfl) G O2 P5 (by decide) (by decide)) (kc := 0) (ks := 0) (by decide) (by decide) all0 (fun _ => sf0) fun v388 T388 h388 L388 A388 K388 q388 => ?_
  obtain ⟨rfl, hh388⟩ := q388
  obtain rfl := hh388.symm
  show Wp pG e below _ T388 (mkF m 403 _ [(.int (Int32.ofNat (c0 :: c1 :: c2 :: (32 : Int32) :: (40 : Int32) :: (116 : Int32) :: (111 : Int32) :: (107 : Int32) :: (101 : Int32) :: (110 : Int32) :: (32 : Int32) :: (dlist n dn ++ [(41 : Int32)])).length))])
  refine f_iconst A388 at_403 (pc' := 404) rfl 2 rfl ?_
  refine f_isub A388 at_404 (pc' := 405) rfl (Int32.ofNat (11 + dn + 1 - 2)) (by rw [hL, show 12 + dn = 11 + dn + 1 by omega]; exact ofn_sub (n := 2) (by omega) (by omega)) ?_
  refine f_istore A388 at_405 (pc' := 407) rfl (L' := #[.val (.long tk), .second, .val (.int i1), .val (.int i2), .val (.int i3), .val (.int ls), .val (.int c0), .val (.int c1), .val (.int c2), .val (.int (3 : Int32)), .val (.ref y), .val (.ref a), .val (.int (0 : Int32)), .val (.long (-tk)), .second, .val (.int (Int32.ofNat dn)), .val (.int (Int32.ofNat (11 + dn + 1 - 2)))]) rfl ?_
  refine f_aload A388 at_407 (pc' := 409) rfl rfl rfl ?_
  refine f_iload A388 at_409 (pc' := 411) rfl rfl ?_
  refine f_iconst A388 at_411 (pc' := 412) rfl 1 rfl ?_
  refine f_iadd A388 at_412 (pc' := 413) rfl (Int32.ofNat (11 + dn)) (by rw [ofn_one (by omega), show 11 + dn + 1 - 2 + 1 = 11 + dn by omega]) ?_
  refine f_callV A388 (a := a) at_413 (pc' := 416) rfl (wd hw 187 rfl) (wd hw 188 rfl) (nfS A388 (wd hw 190 rfl)) (wd hw 190 rfl) (wd hw 189 rfl) (by decide) G.exa pd25 [(.int (Int32.ofNat (11 + dn)))] [] rfl rfl rfl 0 (Nat.le_of_eq rfl) (payCh (W := 0) A388 hw (wd hw 1 rfl) G latS O2 P5 O4 rG3 (11 + dn) (by rw [hL]; omega) rfl (by decide) (by decide)) (kc := 0) (ks := 0) (by decide) (by decide) all0 (fun _ => sf0) fun v389 T389 h389 L389 A389 K389 q389 => ?_
  obtain ⟨e389, hh389⟩ := q389
  obtain rfl := hh389.symm
  rw [hlast] at e389
  subst e389
  show Wp pG e below _ T389 (mkF m 416 _ [(.int (41 : Int32))])
  refine f_bipush A389 at_416 (pc' := 418) rfl 41 rfl ?_
  refine f_icY A389 at_418 (teq (by decide : (41 : Int32) = (41 : Int32))).1 (pc' := 423) (by decide) (by decide) ?_
  exact m_dgt l Z a0 hw tk i1 i2 i3 ls c0 c1 c2 _ _ y a t (-tk) n dn 11 [c0, c1, c2, (32 : Int32), (40 : Int32), (116 : Int32), (111 : Int32), (107 : Int32), (101 : Int32), (110 : Int32), (32 : Int32)] zc O2 P5 fm O4 rG3 h0 n0 hEL hlk hret _ _ _ _ A389 Kh G latS hn hq hdn20 rfl (by decide)
theorem pd27 : parseMethodDescriptor "([C)V" = some ⟨[(.array .char)], none⟩ := by decide +kernel
theorem pd28 : parseMethodDescriptor "(Ljava/lang/String;J)V" = some ⟨[(.object "java/lang/String"), .long], none⟩ := by decide +kernel
set_option maxRecDepth 65536 in
set_option maxHeartbeats 40000000 in
theorem m_law (l : Launch) (Z : State) (a0 : Array Value) (hw : ∀ d ∈ tables_1, d.before a0 Z = true) (ws : List Jvm.Cond) (tk : Int64) (i1 i2 i3 ls : Int32) (hD : Dig Z) (zc : Int32) (O2 : Sta Z Z.heap "java/lang/String" "COMPACT_STRINGS" "Z" (.int zc)) (P5 : ¬ zc = 0) (fm : Value) (O4 : Sta Z Z.heap "jdk/internal/util/Preconditions" "SIOOBE_FORMATTER" "Ljava/util/function/BiFunction;" fm) (rG3 : fm.isRef = true) (h0 : Heap) (n0 : Nat) (ho : Old Z n0 h0) (hEL : EW Z a0 ELs)  :
    CW l x code maxLocals ret ws room_1 Z ELs [] n0 h0 #[(.long tk), (.int i1), (.int i2), (.int i3), (.int ls)] [] (fun v h => v = some (.int 1)) := by
  refine CW.walk (plainFor_of_name pn6) ho (L0 := #[.val (.long tk), .second, .val (.int i1), .val (.int i2), .val (.int i3), .val (.int ls), .unset, .unset, .unset, .unset, .unset, .unset, .unset, .unset, .unset, .unset, .unset]) (fun m => rfl) ?_
  intro pG e s m below meth cO T hlk hret hnm hSL A0
  have K0 : Keep h0 h0 [] := Keep.refl _ _
  obtain ⟨c0, hc0⟩ : ∃ z, i1 &&& 255 = z := ⟨_, rfl⟩
  have b0 := hc0 ▸ and255 i1
  have r0 := lat_of b0
  obtain ⟨c1, hc1⟩ : ∃ z, i2 &&& 255 = z := ⟨_, rfl⟩
  have b1 := hc1 ▸ and255 i2
  have r1 := lat_of b1
  obtain ⟨c2, hc2⟩ : ∃ z, i3 &&& 255 = z := ⟨_, rfl⟩
  have b2 := hc2 ▸ and255 i3
  have r2 := lat_of b2
  obtain ⟨len, hlen⟩ : ∃ z, ls &&& 3 = z := ⟨_, rfl⟩
  have hl4 := lt4 (hlen ▸ c_and ls 3 (by decide))
  obtain ⟨n, hn, hx⟩ := negL_ex tk
  have hdp := Jvm.Free.SBG.digitsL_pos n
  obtain ⟨dn, hdn⟩ : ∃ dn, Jvm.Free.SBG.digitsL n = dn := ⟨_, rfl⟩
  have hdn0 : 1 ≤ dn := by omega
  have hdn20 : dn ≤ 20 := by omega
  refine f_iloadN A0 at_0 (pc' := 1) rfl rfl ?_
  refine f_sipush A0 at_1 (pc' := 4) rfl 255 rfl ?_
  refine f_iand A0 at_4 (pc' := 5) rfl c0 hc0 ?_
  refine f_i2c A0 at_5 (pc' := 6) rfl c0 (chr_id (by omega)) ?_
  refine f_istore A0 at_6 (pc' := 8) rfl (L' := #[.val (.long tk), .second, .val (.int i1), .val (.int i2), .val (.int i3), .val (.int ls), .val (.int c0), .unset, .unset, .unset, .unset, .unset, .unset, .unset, .unset, .unset, .unset]) rfl ?_
  refine f_iloadN A0 at_8 (pc' := 9) rfl rfl ?_
  refine f_sipush A0 at_9 (pc' := 12) rfl 255 rfl ?_
  refine f_iand A0 at_12 (pc' := 13) rfl c1 hc1 ?_
  refine f_i2c A0 at_13 (pc' := 14) rfl c1 (chr_id (by omega)) ?_
  refine f_istore A0 at_14 (pc' := 16) rfl (L' := #[.val (.long tk), .second, .val (.int i1), .val (.int i2), .val (.int i3), .val (.int ls), .val (.int c0), .val (.int c1), .unset, .unset, .unset, .unset, .unset, .unset, .unset, .unset, .unset]) rfl ?_
  refine f_iload A0 at_16 (pc' := 18) rfl rfl ?_
  refine f_sipush A0 at_18 (pc' := 21) rfl 255 rfl ?_
  refine f_iand A0 at_21 (pc' := 22) rfl c2 hc2 ?_
  refine f_i2c A0 at_22 (pc' := 23) rfl c2 (chr_id (by omega)) ?_
  refine f_istore A0 at_23 (pc' := 25) rfl (L' := #[.val (.long tk), .second, .val (.int i1), .val (.int i2), .val (.int i3), .val (.int ls), .val (.int c0), .val (.int c1), .val (.int c2), .unset, .unset, .unset, .unset, .unset, .unset, .unset, .unset]) rfl ?_
  refine f_iload A0 at_25 (pc' := 27) rfl rfl ?_
  refine f_iconst A0 at_27 (pc' := 28) rfl 3 rfl ?_
  rcases hl4 with rfl | rfl | rfl | rfl
  · refine f_iand A0 at_28 (pc' := 29) rfl (0 : Int32) hlen ?_
    refine f_istore A0 at_29 (pc' := 31) rfl (L' := #[.val (.long tk), .second, .val (.int i1), .val (.int i2), .val (.int i3), .val (.int ls), .val (.int c0), .val (.int c1), .val (.int c2), .val (.int (0 : Int32)), .unset, .unset, .unset, .unset, .unset, .unset, .unset]) rfl ?_
    refine f_iload A0 at_31 (pc' := 33) rfl rfl ?_
    refine f_ifN A0 at_33 ((if0 _ _).trans (teq (by decide : (0 : Int32) = (0 : Int32))).2) (pc' := 36) rfl ?_
    refine f_new A0 at_36 (pc' := 39) rfl (wd hw 0 rfl) (wd hw 1 rfl) (wd hw 2 rfl) (by decide) (by decide) fun a390 T390 h390 g390 A390 E390 X390 D390 => ?_
    have z390 : n0 ≤ a390 := Nat.le_trans A0.sz (Nat.le_of_eq g390.symm)
    have y390 : h0.size ≤ a390 := Nat.le_trans K0.1 (Nat.le_of_eq g390.symm)
    have Q391 : Keep h0 h390 [] := K0.ext E390
    have s390 := Safe.ext E390 (A0.ch rfl).1 (Safe.new (Nat.le_of_eq g390.symm))
    refine f_dup A390 at_39 (pc' := 40) rfl rfl ?_
    refine f_iconst A390 at_40 (pc' := 41) rfl 0 rfl ?_
    refine f_newP A390 0 at_41 (pc' := 43) rfl (wd hw 3 rfl) (by decide) (by decide) (by decide) (by decide) (by decide) (ad := "[C") (by decide) fun a392 T392 h392 k392 g392 A392 E392 F392 X392 => ?_
    have z392 : n0 ≤ a392 := Nat.le_trans A390.sz (Nat.le_of_eq g392.symm)
    have y392 : h0.size ≤ a392 := Nat.le_trans Q391.1 (Nat.le_of_eq g392.symm)
    have Q393 : Keep h0 h392 [] := Q391.ext E392
    have V392 := F392
    have c394 := (X390.ext E392)
    have c395 := ((show Fld Z h390 a390 "java/lang/String" "value" "[B" .null from D390 (Or.inr (wd hw 29 rfl)) (ty := (.array .byte)) (by decide)).ext E392)
    have c396 := ((show Fld Z h390 a390 "java/lang/String" "coder" "B" (.int (0 : Int32)) from D390 (Or.inr (wd hw 27 rfl)) (ty := .byte) (by decide)).ext E392)
    have c398 := (Safe.ext E392 (A390.ch rfl).1 s390)
    refine f_callIW A392 (a := a390) at_43 (pc' := 46) rfl rfl (wd hw 4 rfl) (wd hw 5 rfl) (wd hw 6 rfl) (by decide) pd27 [(.ref a392)] [(.ref a390)] rfl rfl rfl 1 (Nat.le_of_eq rfl) (CW.pay (W := 1) A392 hEL (m_new1E l Z a0 hw a390 a392 k392 [] h392 n0 A392.old hEL c394 c395 c396 z390 V392) (wd hw 6 rfl) (wd hw 2 rfl) (by decide) (by decide) (allS ⟨(Nat.lt_of_lt_of_le X390.lt E392.1), c398⟩ all0)) (kc := 2) (ks := 4) (by decide) (by decide) (allS z390 all0) fun v397 vm397 T397 h397 L397 A397 K397 C397 q397 => ?_
    have Q399 : Keep h0 h397 [] := Q393.trans K397 (allS (Or.inr y390) all0)
    obtain ⟨rfl, t397, G397⟩ := q397
    show Wp pG e below _ T397 (mkF m 46 _ [(.ref a390)])
    refine f_astore A397 at_46 (pc' := 48) rfl rfl (L' := #[.val (.long tk), .second, .val (.int i1), .val (.int i2), .val (.int i3), .val (.int ls), .val (.int c0), .val (.int c1), .val (.int c2), .val (.int (0 : Int32)), .val (.ref a390), .unset, .unset, .unset, .unset, .unset, .unset]) rfl ?_
    refine f_goto A397 at_48 (pc' := 135) (by decide) (by decide) ?_
    refine f_new A397 at_135 (pc' := 138) rfl (wd hw 30 rfl) (wd hw 31 rfl) (wd hw 32 rfl) (by decide) (by decide) fun a400 T400 h400 g400 A400 E400 X400 D400 => ?_
    have z400 : n0 ≤ a400 := Nat.le_trans A397.sz (Nat.le_of_eq g400.symm)
    have y400 : h0.size ≤ a400 := Nat.le_trans Q399.1 (Nat.le_of_eq g400.symm)
    have Q401 : Keep h0 h400 [] := Q399.ext E400
    refine f_dup A400 at_138 (pc' := 139) rfl rfl ?_
    refine f_aload A400 at_139 (pc' := 141) rfl rfl rfl ?_
    refine f_lloadN A400 at_141 (pc' := 142) rfl rfl ?_
    refine f_callI A400 (a := a400) at_142 (pc' := 145) rfl rfl (wd hw 33 rfl) (wd hw 34 rfl) (wd hw 35 rfl) (by decide) pd28 [(.ref a390), (.long tk)] [(.ref a400)] rfl rfl rfl 1 (Nat.le_of_eq rfl) (CN.pay (W := 1) A400 (m_qi l Z a0 hw a400 a390 tk h400 n0 A400.old X400 (show Fld Z h400 a400 "com/example/await_in_turn/awaitinturn/QueueEntry" "id" "Ljava/lang/String;" .null from D400 (Or.inr (wd hw 38 rfl)) (ty := (.object "java/lang/String")) (by decide)) (show Fld Z h400 a400 "com/example/await_in_turn/awaitinturn/QueueEntry" "token" "J" (.long (0 : Int64)) from D400 (Or.inr (wd hw 40 rfl)) (ty := .long) (by decide)) z400) (wd hw 35 rfl) (wd hw 32 rfl) (by decide) (by decide)) (kc := 0) (ks := 0) (by decide) (by decide) (allS z400 all0) (fun _ => (sfS (Safe.exa A400.hZ.alike X400 (by decide) (by decide)) sf0)) fun v402 T402 h402 L402 A402 K402 q402 => ?_
    have Q403 : Keep h0 h402 [] := Q401.trans K402 (allS (Or.inr y400) all0)
    obtain ⟨rfl, X402q, Fi402, Ft402⟩ := q402
    show Wp pG e below _ T402 (mkF m 145 _ [(.ref a400)])
    have c404 := ((G397.ext E400).keep K402 (ninS (Nat.ne_of_lt (Nat.lt_of_lt_of_le (Nat.lt_of_lt_of_le (Nat.lt_of_lt_of_le X390.lt E392.1) K397.1) (Nat.le_of_eq g400.symm))) nin0) (ninS (Nat.ne_of_lt (Nat.lt_of_lt_of_le G397.lt' (Nat.le_of_eq g400.symm))) nin0))
    refine f_callVW A402 (a := a400) at_145 (pc' := 148) rfl (wd hw 41 rfl) (wd hw 42 rfl) (nfS A402 (wd hw 44 rfl)) (wd hw 44 rfl) (wd hw 43 rfl) (by decide) X402q pd24 [] [] rfl rfl rfl 0 (Nat.le_of_eq rfl) (CW.pay (W := 0) A402 hEL (m_qts l Z a0 hw a400 a390 t397 [] tk n zc O2 P5 h402 n0 A402.old hEL X402q Fi402 Ft402 c404 ln (Nat.le_of_ble_eq_true rfl) hD hn hx) (wd hw 45 rfl) (wd hw 32 rfl) (by decide) (by decide) (fun _ q => nomatch q)) (kc := 12) (ks := 260) (by decide) (by decide) all0 fun v405 vm405 T405 h405 L405 A405 K405 C405 q405 => ?_
    have Q406 : Keep h0 h405 [] := Q403.trans K405 all0
    obtain ⟨a405, b405, rfl, ag405, G405⟩ := q405
    show Wp pG e below _ T405 (mkF m 148 _ [(.ref a405)])
    refine f_astore A405 at_148 (pc' := 150) rfl rfl (L' := #[.val (.long tk), .second, .val (.int i1), .val (.int i2), .val (.int i3), .val (.int ls), .val (.int c0), .val (.int c1), .val (.int c2), .val (.int (0 : Int32)), .val (.ref a390), .val (.ref a405), .unset, .unset, .unset, .unset, .unset]) rfl ?_
    by_cases hneg : tk < 0
    · exact m_tl0n l Z a0 hw tk i1 i2 i3 ls c0 c1 c2 a390 a405 b405 n dn zc O2 P5 fm O4 rG3 h0 n0 hEL hlk hret _ _ _ _ (A405.more (by decide) (by decide)) Q406 G405 r0 r1 r2 hn hx hdn hdn0 hdn20 hneg
    · exact m_tl0p l Z a0 hw tk i1 i2 i3 ls c0 c1 c2 a390 a405 b405 n dn zc O2 P5 fm O4 rG3 h0 n0 hEL hlk hret _ _ _ _ (A405.more (by decide) (by decide)) Q406 G405 r0 r1 r2 hn hx hdn hdn0 hdn20 hneg
  · refine f_iand A0 at_28 (pc' := 29) rfl (1 : Int32) hlen ?_
    refine f_istore A0 at_29 (pc' := 31) rfl (L' := #[.val (.long tk), .second, .val (.int i1), .val (.int i2), .val (.int i3), .val (.int ls), .val (.int c0), .val (.int c1), .val (.int c2), .val (.int (1 : Int32)), .unset, .unset, .unset, .unset, .unset, .unset, .unset]) rfl ?_
    refine f_iload A0 at_31 (pc' := 33) rfl rfl ?_
    refine f_ifY A0 at_33 ((if0 _ _).trans (feq (by decide : ¬ (1 : Int32) = (0 : Int32))).2) (pc' := 51) (by decide) (by decide) ?_
    refine f_iload A0 at_51 (pc' := 53) rfl rfl ?_
    refine f_iconst A0 at_53 (pc' := 54) rfl 1 rfl ?_
    refine f_icN A0 at_54 (teq (by decide : (1 : Int32) = (1 : Int32))).2 (pc' := 57) rfl ?_
    refine f_new A0 at_57 (pc' := 60) rfl (wd hw 0 rfl) (wd hw 1 rfl) (wd hw 2 rfl) (by decide) (by decide) fun a407 T407 h407 g407 A407 E407 X407 D407 => ?_
    have z407 : n0 ≤ a407 := Nat.le_trans A0.sz (Nat.le_of_eq g407.symm)
    have y407 : h0.size ≤ a407 := Nat.le_trans K0.1 (Nat.le_of_eq g407.symm)
    have Q408 : Keep h0 h407 [] := K0.ext E407
    have s407 := Safe.ext E407 (A0.ch rfl).1 (Safe.new (Nat.le_of_eq g407.symm))
    refine f_dup A407 at_60 (pc' := 61) rfl rfl ?_
    refine f_iconst A407 at_61 (pc' := 62) rfl 1 rfl ?_
    refine f_newP A407 1 at_62 (pc' := 64) rfl (wd hw 3 rfl) (by decide) (by decide) (by decide) (by decide) (by decide) (ad := "[C") (by decide) fun a409 T409 h409 k409 g409 A409 E409 F409 X409 => ?_
    have z409 : n0 ≤ a409 := Nat.le_trans A407.sz (Nat.le_of_eq g409.symm)
    have y409 : h0.size ≤ a409 := Nat.le_trans Q408.1 (Nat.le_of_eq g409.symm)
    have Q410 : Keep h0 h409 [] := Q408.ext E409
    have V409 : Arv Z h409 a409 k409 .char (1 : Int32) [(.int (0 : Int32))] (.int (0 : Int32)) := F409.pad (pad_rep [] (.int (0 : Int32)) 1)
    refine f_dup A409 at_64 (pc' := 65) rfl rfl ?_
    refine f_iconst A409 at_65 (pc' := 66) rfl 0 rfl ?_
    refine f_iload A409 at_66 (pc' := 68) rfl rfl ?_
    refine f_castore A409 at_68 (pc' := 69) rfl V409 ⟨by decide, by decide⟩ 0 (by decide) (Nat.le_of_ble_eq_true rfl) c0 (nar_id (by omega)) (vs' := [(.int c0)]) rfl z409 (fun _ => (Safe.exa A409.hZ.alike X409 (by decide) (by decide))) fun T411 h411 A411 K411 V411 => ?_
    have Q412 : Keep h0 h411 [] := Q410.trans K411 (allS (Or.inr y409) all0)
    have c413 := ((X407.ext E409).keep K411)
    have c414 := (((show Fld Z h407 a407 "java/lang/String" "value" "[B" .null from D407 (Or.inr (wd hw 29 rfl)) (ty := (.array .byte)) (by decide)).ext E409).keep K411 (ninS (Nat.ne_of_lt (Nat.lt_of_lt_of_le X407.lt (Nat.le_of_eq g409.symm))) nin0))
    have c415 := (((show Fld Z h407 a407 "java/lang/String" "coder" "B" (.int (0 : Int32)) from D407 (Or.inr (wd hw 27 rfl)) (ty := .byte) (by decide)).ext E409).keep K411 (ninS (Nat.ne_of_lt (Nat.lt_of_lt_of_le X407.lt (Nat.le_of_eq g409.symm))) nin0))
    have c417 := (Safe.keep K411 (sfS (Safe.exa A409.hZ.alike X409 (by decide) (by decide)) sf0) (A409.ch rfl).1 (Safe.ext E409 (A407.ch rfl).1 s407))
    refine f_callI A411 (a := a407) at_69 (pc' := 72) rfl rfl (wd hw 4 rfl) (wd hw 5 rfl) (wd hw 6 rfl) (by decide) pd27 [(.ref a409)] [(.ref a407)] rfl rfl rfl 1 (Nat.le_of_eq rfl) (payNew (W := 1) A411 hw (wd hw 1 rfl) (cs := [c0]) 1 z407 c413 c414 c415 V411 O2 P5 rfl rfl (by decide) (by decide) (lc r0 ln) (by decide) (by decide)) (kc := 1) (ks := 1) (by decide) (by decide) (allS z407 all0) (fun _ => (sfS c417 sf0)) fun v416 T416 h416 L416 A416 K416 q416 => ?_
    have Q418 : Keep h0 h416 [] := Q412.trans K416 (allS (Or.inr y407) all0)
    obtain ⟨rfl, t416, tz416, tg416, tn416, G416⟩ := q416
    show Wp pG e below _ T416 (mkF m 72 _ [(.ref a407)])
    refine f_astore A416 at_72 (pc' := 74) rfl rfl (L' := #[.val (.long tk), .second, .val (.int i1), .val (.int i2), .val (.int i3), .val (.int ls), .val (.int c0), .val (.int c1), .val (.int c2), .val (.int (1 : Int32)), .val (.ref a407), .unset, .unset, .unset, .unset, .unset, .unset]) rfl ?_
    refine f_goto A416 at_74 (pc' := 135) (by decide) (by decide) ?_
    refine f_new A416 at_135 (pc' := 138) rfl (wd hw 30 rfl) (wd hw 31 rfl) (wd hw 32 rfl) (by decide) (by decide) fun a419 T419 h419 g419 A419 E419 X419 D419 => ?_
    have z419 : n0 ≤ a419 := Nat.le_trans A416.sz (Nat.le_of_eq g419.symm)
    have y419 : h0.size ≤ a419 := Nat.le_trans Q418.1 (Nat.le_of_eq g419.symm)
    have Q420 : Keep h0 h419 [] := Q418.ext E419
    refine f_dup A419 at_138 (pc' := 139) rfl rfl ?_
    refine f_aload A419 at_139 (pc' := 141) rfl rfl rfl ?_
    refine f_lloadN A419 at_141 (pc' := 142) rfl rfl ?_
    refine f_callI A419 (a := a419) at_142 (pc' := 145) rfl rfl (wd hw 33 rfl) (wd hw 34 rfl) (wd hw 35 rfl) (by decide) pd28 [(.ref a407), (.long tk)] [(.ref a419)] rfl rfl rfl 1 (Nat.le_of_eq rfl) (CN.pay (W := 1) A419 (m_qi l Z a0 hw a419 a407 tk h419 n0 A419.old X419 (show Fld Z h419 a419 "com/example/await_in_turn/awaitinturn/QueueEntry" "id" "Ljava/lang/String;" .null from D419 (Or.inr (wd hw 38 rfl)) (ty := (.object "java/lang/String")) (by decide)) (show Fld Z h419 a419 "com/example/await_in_turn/awaitinturn/QueueEntry" "token" "J" (.long (0 : Int64)) from D419 (Or.inr (wd hw 40 rfl)) (ty := .long) (by decide)) z419) (wd hw 35 rfl) (wd hw 32 rfl) (by decide) (by decide)) (kc := 0) (ks := 0) (by decide) (by decide) (allS z419 all0) (fun _ => (sfS (Safe.exa A419.hZ.alike X419 (by decide) (by decide)) sf0)) fun v421 T421 h421 L421 A421 K421 q421 => ?_
    have Q422 : Keep h0 h421 [] := Q420.trans K421 (allS (Or.inr y419) all0)
    obtain ⟨rfl, X421q, Fi421, Ft421⟩ := q421
    show Wp pG e below _ T421 (mkF m 145 _ [(.ref a419)])
    have c423 := ((G416.ext E419).keep K421 (ninS (Nat.ne_of_lt (Nat.lt_of_lt_of_le (Nat.lt_of_lt_of_le (Nat.lt_of_lt_of_le (Nat.lt_of_lt_of_le X407.lt E409.1) K411.1) K416.1) (Nat.le_of_eq g419.symm))) nin0) (ninS (Nat.ne_of_lt (Nat.lt_of_lt_of_le G416.lt' (Nat.le_of_eq g419.symm))) nin0))
    refine f_callVW A421 (a := a419) at_145 (pc' := 148) rfl (wd hw 41 rfl) (wd hw 42 rfl) (nfS A421 (wd hw 44 rfl)) (wd hw 44 rfl) (wd hw 43 rfl) (by decide) X421q pd24 [] [] rfl rfl rfl 0 (Nat.le_of_eq rfl) (CW.pay (W := 0) A421 hEL (m_qts l Z a0 hw a419 a407 t416 [c0] tk n zc O2 P5 h421 n0 A421.old hEL X421q Fi421 Ft421 c423 (lc r0 ln) (Nat.le_of_ble_eq_true rfl) hD hn hx) (wd hw 45 rfl) (wd hw 32 rfl) (by decide) (by decide) (fun _ q => nomatch q)) (kc := 12) (ks := 260) (by decide) (by decide) all0 fun v424 vm424 T424 h424 L424 A424 K424 C424 q424 => ?_
    have Q425 : Keep h0 h424 [] := Q422.trans K424 all0
    obtain ⟨a424, b424, rfl, ag424, G424⟩ := q424
    show Wp pG e below _ T424 (mkF m 148 _ [(.ref a424)])
    refine f_astore A424 at_148 (pc' := 150) rfl rfl (L' := #[.val (.long tk), .second, .val (.int i1), .val (.int i2), .val (.int i3), .val (.int ls), .val (.int c0), .val (.int c1), .val (.int c2), .val (.int (1 : Int32)), .val (.ref a407), .val (.ref a424), .unset, .unset, .unset, .unset, .unset]) rfl ?_
    by_cases hneg : tk < 0
    · exact m_tl1n l Z a0 hw tk i1 i2 i3 ls c0 c1 c2 a407 a424 b424 n dn zc O2 P5 fm O4 rG3 h0 n0 hEL hlk hret _ _ _ _ (A424.more (by decide) (by decide)) Q425 G424 r0 r1 r2 hn hx hdn hdn0 hdn20 hneg
    · exact m_tl1p l Z a0 hw tk i1 i2 i3 ls c0 c1 c2 a407 a424 b424 n dn zc O2 P5 fm O4 rG3 h0 n0 hEL hlk hret _ _ _ _ (A424.more (by decide) (by decide)) Q425 G424 r0 r1 r2 hn hx hdn hdn0 hdn20 hneg
  · refine f_iand A0 at_28 (pc' := 29) rfl (2 : Int32) hlen ?_
    refine f_istore A0 at_29 (pc' := 31) rfl (L' := #[.val (.long tk), .second, .val (.int i1), .val (.int i2), .val (.int i3), .val (.int ls), .val (.int c0), .val (.int c1), .val (.int c2), .val (.int (2 : Int32)), .unset, .unset, .unset, .unset, .unset, .unset, .unset]) rfl ?_
    refine f_iload A0 at_31 (pc' := 33) rfl rfl ?_
    refine f_ifY A0 at_33 ((if0 _ _).trans (feq (by decide : ¬ (2 : Int32) = (0 : Int32))).2) (pc' := 51) (by decide) (by decide) ?_
    refine f_iload A0 at_51 (pc' := 53) rfl rfl ?_
    refine f_iconst A0 at_53 (pc' := 54) rfl 1 rfl ?_
    refine f_icY A0 at_54 (feq (by decide : ¬ (2 : Int32) = (1 : Int32))).2 (pc' := 77) (by decide) (by decide) ?_
    refine f_iload A0 at_77 (pc' := 79) rfl rfl ?_
    refine f_iconst A0 at_79 (pc' := 80) rfl 2 rfl ?_
    refine f_icN A0 at_80 (teq (by decide : (2 : Int32) = (2 : Int32))).2 (pc' := 83) rfl ?_
    refine f_new A0 at_83 (pc' := 86) rfl (wd hw 0 rfl) (wd hw 1 rfl) (wd hw 2 rfl) (by decide) (by decide) fun a426 T426 h426 g426 A426 E426 X426 D426 => ?_
    have z426 : n0 ≤ a426 := Nat.le_trans A0.sz (Nat.le_of_eq g426.symm)
    have y426 : h0.size ≤ a426 := Nat.le_trans K0.1 (Nat.le_of_eq g426.symm)
    have Q427 : Keep h0 h426 [] := K0.ext E426
    have s426 := Safe.ext E426 (A0.ch rfl).1 (Safe.new (Nat.le_of_eq g426.symm))
    refine f_dup A426 at_86 (pc' := 87) rfl rfl ?_
    refine f_iconst A426 at_87 (pc' := 88) rfl 2 rfl ?_
    refine f_newP A426 2 at_88 (pc' := 90) rfl (wd hw 3 rfl) (by decide) (by decide) (by decide) (by decide) (by decide) (ad := "[C") (by decide) fun a428 T428 h428 k428 g428 A428 E428 F428 X428 => ?_
    have z428 : n0 ≤ a428 := Nat.le_trans A426.sz (Nat.le_of_eq g428.symm)
    have y428 : h0.size ≤ a428 := Nat.le_trans Q427.1 (Nat.le_of_eq g428.symm)
    have Q429 : Keep h0 h428 [] := Q427.ext E428
    have V428 : Arv Z h428 a428 k428 .char (2 : Int32) [(.int (0 : Int32)), (.int (0 : Int32))] (.int (0 : Int32)) := F428.pad (pad_rep [] (.int (0 : Int32)) 2)
    refine f_dup A428 at_90 (pc' := 91) rfl rfl ?_
    refine f_iconst A428 at_91 (pc' := 92) rfl 0 rfl ?_
    refine f_iload A428 at_92 (pc' := 94) rfl rfl ?_
    refine f_castore A428 at_94 (pc' := 95) rfl V428 ⟨by decide, by decide⟩ 0 (by decide) (Nat.le_of_ble_eq_true rfl) c0 (nar_id (by omega)) (vs' := [(.int c0), (.int (0 : Int32))]) rfl z428 (fun _ => (Safe.exa A428.hZ.alike X428 (by decide) (by decide))) fun T430 h430 A430 K430 V430 => ?_
    have Q431 : Keep h0 h430 [] := Q429.trans K430 (allS (Or.inr y428) all0)
    refine f_dup A430 at_95 (pc' := 96) rfl rfl ?_
    refine f_iconst A430 at_96 (pc' := 97) rfl 1 rfl ?_
    refine f_iload A430 at_97 (pc' := 99) rfl rfl ?_
    have c433 := (X428.keep K430)
    refine f_castore A430 at_99 (pc' := 100) rfl V430 ⟨by decide, by decide⟩ 1 (by decide) (Nat.le_of_ble_eq_true rfl) c1 (nar_id (by omega)) (vs' := [(.int c0), (.int c1)]) rfl z428 (fun _ => (Safe.exa A430.hZ.alike c433 (by decide) (by decide))) fun T432 h432 A432 K432 V432 => ?_
    have Q434 : Keep h0 h432 [] := Q431.trans K432 (allS (Or.inr y428) all0)
    have c435 := (((X426.ext E428).keep K430).keep K432)
    have c436 := ((((show Fld Z h426 a426 "java/lang/String" "value" "[B" .null from D426 (Or.inr (wd hw 29 rfl)) (ty := (.array .byte)) (by decide)).ext E428).keep K430 (ninS (Nat.ne_of_lt (Nat.lt_of_lt_of_le X426.lt (Nat.le_of_eq g428.symm))) nin0)).keep K432 (ninS (Nat.ne_of_lt (Nat.lt_of_lt_of_le X426.lt (Nat.le_of_eq g428.symm))) nin0))
    have c437 := ((((show Fld Z h426 a426 "java/lang/String" "coder" "B" (.int (0 : Int32)) from D426 (Or.inr (wd hw 27 rfl)) (ty := .byte) (by decide)).ext E428).keep K430 (ninS (Nat.ne_of_lt (Nat.lt_of_lt_of_le X426.lt (Nat.le_of_eq g428.symm))) nin0)).keep K432 (ninS (Nat.ne_of_lt (Nat.lt_of_lt_of_le X426.lt (Nat.le_of_eq g428.symm))) nin0))
    have c439 := (Safe.keep K432 (sfS (Safe.exa A430.hZ.alike c433 (by decide) (by decide)) sf0) (A430.ch rfl).1 (Safe.keep K430 (sfS (Safe.exa A428.hZ.alike X428 (by decide) (by decide)) sf0) (A428.ch rfl).1 (Safe.ext E428 (A426.ch rfl).1 s426)))
    refine f_callI A432 (a := a426) at_100 (pc' := 103) rfl rfl (wd hw 4 rfl) (wd hw 5 rfl) (wd hw 6 rfl) (by decide) pd27 [(.ref a428)] [(.ref a426)] rfl rfl rfl 1 (Nat.le_of_eq rfl) (payNew (W := 1) A432 hw (wd hw 1 rfl) (cs := [c0, c1]) 2 z426 c435 c436 c437 V432 O2 P5 rfl rfl (by decide) (by decide) (lc r0 (lc r1 ln)) (by decide) (by decide)) (kc := 1) (ks := 2) (by decide) (by decide) (allS z426 all0) (fun _ => (sfS c439 sf0)) fun v438 T438 h438 L438 A438 K438 q438 => ?_
    have Q440 : Keep h0 h438 [] := Q434.trans K438 (allS (Or.inr y426) all0)
    obtain ⟨rfl, t438, tz438, tg438, tn438, G438⟩ := q438
    show Wp pG e below _ T438 (mkF m 103 _ [(.ref a426)])
    refine f_astore A438 at_103 (pc' := 105) rfl rfl (L' := #[.val (.long tk), .second, .val (.int i1), .val (.int i2), .val (.int i3), .val (.int ls), .val (.int c0), .val (.int c1), .val (.int c2), .val (.int (2 : Int32)), .val (.ref a426), .unset, .unset, .unset, .unset, .unset, .unset]) rfl ?_
    refine f_goto A438 at_105 (pc' := 135) (by decide) (by decide) ?_
    refine f_new A438 at_135 (pc' := 138) rfl (wd hw 30 rfl) (wd hw 31 rfl) (wd hw 32 rfl) (by decide) (by decide) fun a441 T441 h441 g441 A441 E441 X441 D441 => ?_
    have z441 : n0 ≤ a441 := Nat.le_trans A438.sz (Nat.le_of_eq g441.symm)
    have y441 : h0.size ≤ a441 := Nat.le_trans Q440.1 (Nat.le_of_eq g441.symm)
    have Q442 : Keep h0 h441 [] := Q440.ext E441
    refine f_dup A441 at_138 (pc' := 139) rfl rfl ?_
    refine f_aload A441 at_139 (pc' := 141) rfl rfl rfl ?_
    refine f_lloadN A441 at_141 (pc' := 142) rfl rfl ?_
    refine f_callI A441 (a := a441) at_142 (pc' := 145) rfl rfl (wd hw 33 rfl) (wd hw 34 rfl) (wd hw 35 rfl) (by decide) pd28 [(.ref a426), (.long tk)] [(.ref a441)] rfl rfl rfl 1 (Nat.le_of_eq rfl) (CN.pay (W := 1) A441 (m_qi l Z a0 hw a441 a426 tk h441 n0 A441.old X441 (show Fld Z h441 a441 "com/example/await_in_turn/awaitinturn/QueueEntry" "id" "Ljava/lang/String;" .null from D441 (Or.inr (wd hw 38 rfl)) (ty := (.object "java/lang/String")) (by decide)) (show Fld Z h441 a441 "com/example/await_in_turn/awaitinturn/QueueEntry" "token" "J" (.long (0 : Int64)) from D441 (Or.inr (wd hw 40 rfl)) (ty := .long) (by decide)) z441) (wd hw 35 rfl) (wd hw 32 rfl) (by decide) (by decide)) (kc := 0) (ks := 0) (by decide) (by decide) (allS z441 all0) (fun _ => (sfS (Safe.exa A441.hZ.alike X441 (by decide) (by decide)) sf0)) fun v443 T443 h443 L443 A443 K443 q443 => ?_
    have Q444 : Keep h0 h443 [] := Q442.trans K443 (allS (Or.inr y441) all0)
    obtain ⟨rfl, X443q, Fi443, Ft443⟩ := q443
    show Wp pG e below _ T443 (mkF m 145 _ [(.ref a441)])
    have c445 := ((G438.ext E441).keep K443 (ninS (Nat.ne_of_lt (Nat.lt_of_lt_of_le (Nat.lt_of_lt_of_le (Nat.lt_of_lt_of_le (Nat.lt_of_lt_of_le (Nat.lt_of_lt_of_le X426.lt E428.1) K430.1) K432.1) K438.1) (Nat.le_of_eq g441.symm))) nin0) (ninS (Nat.ne_of_lt (Nat.lt_of_lt_of_le G438.lt' (Nat.le_of_eq g441.symm))) nin0))
    refine f_callVW A443 (a := a441) at_145 (pc' := 148) rfl (wd hw 41 rfl) (wd hw 42 rfl) (nfS A443 (wd hw 44 rfl)) (wd hw 44 rfl) (wd hw 43 rfl) (by decide) X443q pd24 [] [] rfl rfl rfl 0 (Nat.le_of_eq rfl) (CW.pay (W := 0) A443 hEL (m_qts l Z a0 hw a441 a426 t438 [c0, c1] tk n zc O2 P5 h443 n0 A443.old hEL X443q Fi443 Ft443 c445 (lc r0 (lc r1 ln)) (Nat.le_of_ble_eq_true rfl) hD hn hx) (wd hw 45 rfl) (wd hw 32 rfl) (by decide) (by decide) (fun _ q => nomatch q)) (kc := 12) (ks := 260) (by decide) (by decide) all0 fun v446 vm446 T446 h446 L446 A446 K446 C446 q446 => ?_
    have Q447 : Keep h0 h446 [] := Q444.trans K446 all0
    obtain ⟨a446, b446, rfl, ag446, G446⟩ := q446
    show Wp pG e below _ T446 (mkF m 148 _ [(.ref a446)])
    refine f_astore A446 at_148 (pc' := 150) rfl rfl (L' := #[.val (.long tk), .second, .val (.int i1), .val (.int i2), .val (.int i3), .val (.int ls), .val (.int c0), .val (.int c1), .val (.int c2), .val (.int (2 : Int32)), .val (.ref a426), .val (.ref a446), .unset, .unset, .unset, .unset, .unset]) rfl ?_
    by_cases hneg : tk < 0
    · exact m_tl2n l Z a0 hw tk i1 i2 i3 ls c0 c1 c2 a426 a446 b446 n dn zc O2 P5 fm O4 rG3 h0 n0 hEL hlk hret _ _ _ _ (A446.more (by decide) (by decide)) Q447 G446 r0 r1 r2 hn hx hdn hdn0 hdn20 hneg
    · exact m_tl2p l Z a0 hw tk i1 i2 i3 ls c0 c1 c2 a426 a446 b446 n dn zc O2 P5 fm O4 rG3 h0 n0 hEL hlk hret _ _ _ _ (A446.more (by decide) (by decide)) Q447 G446 r0 r1 r2 hn hx hdn hdn0 hdn20 hneg
  · refine f_iand A0 at_28 (pc' := 29) rfl (3 : Int32) hlen ?_
    refine f_istore A0 at_29 (pc' := 31) rfl (L' := #[.val (.long tk), .second, .val (.int i1), .val (.int i2), .val (.int i3), .val (.int ls), .val (.int c0), .val (.int c1), .val (.int c2), .val (.int (3 : Int32)), .unset, .unset, .unset, .unset, .unset, .unset, .unset]) rfl ?_
    refine f_iload A0 at_31 (pc' := 33) rfl rfl ?_
    refine f_ifY A0 at_33 ((if0 _ _).trans (feq (by decide : ¬ (3 : Int32) = (0 : Int32))).2) (pc' := 51) (by decide) (by decide) ?_
    refine f_iload A0 at_51 (pc' := 53) rfl rfl ?_
    refine f_iconst A0 at_53 (pc' := 54) rfl 1 rfl ?_
    refine f_icY A0 at_54 (feq (by decide : ¬ (3 : Int32) = (1 : Int32))).2 (pc' := 77) (by decide) (by decide) ?_
    refine f_iload A0 at_77 (pc' := 79) rfl rfl ?_
    refine f_iconst A0 at_79 (pc' := 80) rfl 2 rfl ?_
    refine f_icY A0 at_80 (feq (by decide : ¬ (3 : Int32) = (2 : Int32))).2 (pc' := 108) (by decide) (by decide) ?_
    refine f_new A0 at_108 (pc' := 111) rfl (wd hw 0 rfl) (wd hw 1 rfl) (wd hw 2 rfl) (by decide) (by decide) fun a448 T448 h448 g448 A448 E448 X448 D448 => ?_
    have z448 : n0 ≤ a448 := Nat.le_trans A0.sz (Nat.le_of_eq g448.symm)
    have y448 : h0.size ≤ a448 := Nat.le_trans K0.1 (Nat.le_of_eq g448.symm)
    have Q449 : Keep h0 h448 [] := K0.ext E448
    have s448 := Safe.ext E448 (A0.ch rfl).1 (Safe.new (Nat.le_of_eq g448.symm))
    refine f_dup A448 at_111 (pc' := 112) rfl rfl ?_
    refine f_iconst A448 at_112 (pc' := 113) rfl 3 rfl ?_
    refine f_newP A448 3 at_113 (pc' := 115) rfl (wd hw 3 rfl) (by decide) (by decide) (by decide) (by decide) (by decide) (ad := "[C") (by decide) fun a450 T450 h450 k450 g450 A450 E450 F450 X450 => ?_
    have z450 : n0 ≤ a450 := Nat.le_trans A448.sz (Nat.le_of_eq g450.symm)
    have y450 : h0.size ≤ a450 := Nat.le_trans Q449.1 (Nat.le_of_eq g450.symm)
    have Q451 : Keep h0 h450 [] := Q449.ext E450
    have V450 : Arv Z h450 a450 k450 .char (3 : Int32) [(.int (0 : Int32)), (.int (0 : Int32)), (.int (0 : Int32))] (.int (0 : Int32)) := F450.pad (pad_rep [] (.int (0 : Int32)) 3)
    refine f_dup A450 at_115 (pc' := 116) rfl rfl ?_
    refine f_iconst A450 at_116 (pc' := 117) rfl 0 rfl ?_
    refine f_iload A450 at_117 (pc' := 119) rfl rfl ?_
    refine f_castore A450 at_119 (pc' := 120) rfl V450 ⟨by decide, by decide⟩ 0 (by decide) (Nat.le_of_ble_eq_true rfl) c0 (nar_id (by omega)) (vs' := [(.int c0), (.int (0 : Int32)), (.int (0 : Int32))]) rfl z450 (fun _ => (Safe.exa A450.hZ.alike X450 (by decide) (by decide))) fun T452 h452 A452 K452 V452 => ?_
    have Q453 : Keep h0 h452 [] := Q451.trans K452 (allS (Or.inr y450) all0)
    refine f_dup A452 at_120 (pc' := 121) rfl rfl ?_
    refine f_iconst A452 at_121 (pc' := 122) rfl 1 rfl ?_
    refine f_iload A452 at_122 (pc' := 124) rfl rfl ?_
    have c455 := (X450.keep K452)
    refine f_castore A452 at_124 (pc' := 125) rfl V452 ⟨by decide, by decide⟩ 1 (by decide) (Nat.le_of_ble_eq_true rfl) c1 (nar_id (by omega)) (vs' := [(.int c0), (.int c1), (.int (0 : Int32))]) rfl z450 (fun _ => (Safe.exa A452.hZ.alike c455 (by decide) (by decide))) fun T454 h454 A454 K454 V454 => ?_
    have Q456 : Keep h0 h454 [] := Q453.trans K454 (allS (Or.inr y450) all0)
    refine f_dup A454 at_125 (pc' := 126) rfl rfl ?_
    refine f_iconst A454 at_126 (pc' := 127) rfl 2 rfl ?_
    refine f_iload A454 at_127 (pc' := 129) rfl rfl ?_
    have c458 := (c455.keep K454)
    refine f_castore A454 at_129 (pc' := 130) rfl V454 ⟨by decide, by decide⟩ 2 (by decide) (Nat.le_of_ble_eq_true rfl) c2 (nar_id (by omega)) (vs' := [(.int c0), (.int c1), (.int c2)]) rfl z450 (fun _ => (Safe.exa A454.hZ.alike c458 (by decide) (by decide))) fun T457 h457 A457 K457 V457 => ?_
    have Q459 : Keep h0 h457 [] := Q456.trans K457 (allS (Or.inr y450) all0)
    have c460 := ((((X448.ext E450).keep K452).keep K454).keep K457)
    have c461 := (((((show Fld Z h448 a448 "java/lang/String" "value" "[B" .null from D448 (Or.inr (wd hw 29 rfl)) (ty := (.array .byte)) (by decide)).ext E450).keep K452 (ninS (Nat.ne_of_lt (Nat.lt_of_lt_of_le X448.lt (Nat.le_of_eq g450.symm))) nin0)).keep K454 (ninS (Nat.ne_of_lt (Nat.lt_of_lt_of_le X448.lt (Nat.le_of_eq g450.symm))) nin0)).keep K457 (ninS (Nat.ne_of_lt (Nat.lt_of_lt_of_le X448.lt (Nat.le_of_eq g450.symm))) nin0))
    have c462 := (((((show Fld Z h448 a448 "java/lang/String" "coder" "B" (.int (0 : Int32)) from D448 (Or.inr (wd hw 27 rfl)) (ty := .byte) (by decide)).ext E450).keep K452 (ninS (Nat.ne_of_lt (Nat.lt_of_lt_of_le X448.lt (Nat.le_of_eq g450.symm))) nin0)).keep K454 (ninS (Nat.ne_of_lt (Nat.lt_of_lt_of_le X448.lt (Nat.le_of_eq g450.symm))) nin0)).keep K457 (ninS (Nat.ne_of_lt (Nat.lt_of_lt_of_le X448.lt (Nat.le_of_eq g450.symm))) nin0))
    have c464 := (Safe.keep K457 (sfS (Safe.exa A454.hZ.alike c458 (by decide) (by decide)) sf0) (A454.ch rfl).1 (Safe.keep K454 (sfS (Safe.exa A452.hZ.alike c455 (by decide) (by decide)) sf0) (A452.ch rfl).1 (Safe.keep K452 (sfS (Safe.exa A450.hZ.alike X450 (by decide) (by decide)) sf0) (A450.ch rfl).1 (Safe.ext E450 (A448.ch rfl).1 s448))))
    refine f_callI A457 (a := a448) at_130 (pc' := 133) rfl rfl (wd hw 4 rfl) (wd hw 5 rfl) (wd hw 6 rfl) (by decide) pd27 [(.ref a450)] [(.ref a448)] rfl rfl rfl 1 (Nat.le_of_eq rfl) (payNew (W := 1) A457 hw (wd hw 1 rfl) (cs := [c0, c1, c2]) 3 z448 c460 c461 c462 V457 O2 P5 rfl rfl (by decide) (by decide) (lc r0 (lc r1 (lc r2 ln))) (by decide) (by decide)) (kc := 1) (ks := 3) (by decide) (by decide) (allS z448 all0) (fun _ => (sfS c464 sf0)) fun v463 T463 h463 L463 A463 K463 q463 => ?_
    have Q465 : Keep h0 h463 [] := Q459.trans K463 (allS (Or.inr y448) all0)
    obtain ⟨rfl, t463, tz463, tg463, tn463, G463⟩ := q463
    show Wp pG e below _ T463 (mkF m 133 _ [(.ref a448)])
    refine f_astore A463 at_133 (pc' := 135) rfl rfl (L' := #[.val (.long tk), .second, .val (.int i1), .val (.int i2), .val (.int i3), .val (.int ls), .val (.int c0), .val (.int c1), .val (.int c2), .val (.int (3 : Int32)), .val (.ref a448), .unset, .unset, .unset, .unset, .unset, .unset]) rfl ?_
    refine f_new A463 at_135 (pc' := 138) rfl (wd hw 30 rfl) (wd hw 31 rfl) (wd hw 32 rfl) (by decide) (by decide) fun a466 T466 h466 g466 A466 E466 X466 D466 => ?_
    have z466 : n0 ≤ a466 := Nat.le_trans A463.sz (Nat.le_of_eq g466.symm)
    have y466 : h0.size ≤ a466 := Nat.le_trans Q465.1 (Nat.le_of_eq g466.symm)
    have Q467 : Keep h0 h466 [] := Q465.ext E466
    refine f_dup A466 at_138 (pc' := 139) rfl rfl ?_
    refine f_aload A466 at_139 (pc' := 141) rfl rfl rfl ?_
    refine f_lloadN A466 at_141 (pc' := 142) rfl rfl ?_
    refine f_callI A466 (a := a466) at_142 (pc' := 145) rfl rfl (wd hw 33 rfl) (wd hw 34 rfl) (wd hw 35 rfl) (by decide) pd28 [(.ref a448), (.long tk)] [(.ref a466)] rfl rfl rfl 1 (Nat.le_of_eq rfl) (CN.pay (W := 1) A466 (m_qi l Z a0 hw a466 a448 tk h466 n0 A466.old X466 (show Fld Z h466 a466 "com/example/await_in_turn/awaitinturn/QueueEntry" "id" "Ljava/lang/String;" .null from D466 (Or.inr (wd hw 38 rfl)) (ty := (.object "java/lang/String")) (by decide)) (show Fld Z h466 a466 "com/example/await_in_turn/awaitinturn/QueueEntry" "token" "J" (.long (0 : Int64)) from D466 (Or.inr (wd hw 40 rfl)) (ty := .long) (by decide)) z466) (wd hw 35 rfl) (wd hw 32 rfl) (by decide) (by decide)) (kc := 0) (ks := 0) (by decide) (by decide) (allS z466 all0) (fun _ => (sfS (Safe.exa A466.hZ.alike X466 (by decide) (by decide)) sf0)) fun v468 T468 h468 L468 A468 K468 q468 => ?_
    have Q469 : Keep h0 h468 [] := Q467.trans K468 (allS (Or.inr y466) all0)
    obtain ⟨rfl, X468q, Fi468, Ft468⟩ := q468
    show Wp pG e below _ T468 (mkF m 145 _ [(.ref a466)])
    have c470 := ((G463.ext E466).keep K468 (ninS (Nat.ne_of_lt (Nat.lt_of_lt_of_le (Nat.lt_of_lt_of_le (Nat.lt_of_lt_of_le (Nat.lt_of_lt_of_le (Nat.lt_of_lt_of_le (Nat.lt_of_lt_of_le X448.lt E450.1) K452.1) K454.1) K457.1) K463.1) (Nat.le_of_eq g466.symm))) nin0) (ninS (Nat.ne_of_lt (Nat.lt_of_lt_of_le G463.lt' (Nat.le_of_eq g466.symm))) nin0))
    refine f_callVW A468 (a := a466) at_145 (pc' := 148) rfl (wd hw 41 rfl) (wd hw 42 rfl) (nfS A468 (wd hw 44 rfl)) (wd hw 44 rfl) (wd hw 43 rfl) (by decide) X468q pd24 [] [] rfl rfl rfl 0 (Nat.le_of_eq rfl) (CW.pay (W := 0) A468 hEL (m_qts l Z a0 hw a466 a448 t463 [c0, c1, c2] tk n zc O2 P5 h468 n0 A468.old hEL X468q Fi468 Ft468 c470 (lc r0 (lc r1 (lc r2 ln))) (Nat.le_of_ble_eq_true rfl) hD hn hx) (wd hw 45 rfl) (wd hw 32 rfl) (by decide) (by decide) (fun _ q => nomatch q)) (kc := 12) (ks := 260) (by decide) (by decide) all0 fun v471 vm471 T471 h471 L471 A471 K471 C471 q471 => ?_
    have Q472 : Keep h0 h471 [] := Q469.trans K471 all0
    obtain ⟨a471, b471, rfl, ag471, G471⟩ := q471
    show Wp pG e below _ T471 (mkF m 148 _ [(.ref a471)])
    refine f_astore A471 at_148 (pc' := 150) rfl rfl (L' := #[.val (.long tk), .second, .val (.int i1), .val (.int i2), .val (.int i3), .val (.int ls), .val (.int c0), .val (.int c1), .val (.int c2), .val (.int (3 : Int32)), .val (.ref a448), .val (.ref a471), .unset, .unset, .unset, .unset, .unset]) rfl ?_
    by_cases hneg : tk < 0
    · exact m_tl3n l Z a0 hw tk i1 i2 i3 ls c0 c1 c2 a448 a471 b471 n dn zc O2 P5 fm O4 rG3 h0 n0 hEL hlk hret _ _ _ _ (A471.more (by decide) (by decide)) Q472 G471 r0 r1 r2 hn hx hdn hdn0 hdn20 hneg
    · exact m_tl3p l Z a0 hw tk i1 i2 i3 ls c0 c1 c2 a448 a471 b471 n dn zc O2 P5 fm O4 rG3 h0 n0 hEL hlk hret _ _ _ _ (A471.more (by decide) (by decide)) Q472 G471 r0 r1 r2 hn hx hdn hdn0 hdn20 hneg
set_option maxRecDepth 65536 in
set_option maxHeartbeats 40000000 in
theorem comes_1 {Post : Tables → Env → Array Value → State → Outcome → State → Prop} (hpost : ∀ tb e args s v u, (limb_1_1.after args s (.returned v) u = true ∧ limb_1_2.after args s (.returned v) u = true ∧ True) → ReturnedEndW s (.returned v) u (Jvm.fieldLocs frame_1_writes args s ++ Jvm.arrayLocs frame_1_arrays args s ++ Jvm.staticLocs frame_1_statics s) 32 3392 → Post tb e args s (.returned v) u) :
    ArmFor flags0 classFile x code maxLocals ret World_1 tables_1 room_1 Calls_1 rest_1 Pre_1 Post := by
  intro l hfl _ _ p e ha hc hk s m args below hf hA hF happ hP
  obtain ⟨hcalls, hrest, hpre⟩ := hP
  obtain ⟨-, -, -, hnamed, -, -, -, hat⟩ := (Spec.applies_iff hf).mp happ
  obtain ⟨hg, hn⟩ := and_e (Cond.before_iff.mp (show (Jvm.Cond.and given_1 narrow_1).before args s = true from hpre))
  obtain ⟨gc, g0⟩ := and_e hg
  obtain ⟨b0, g1⟩ := and_e g0
  obtain ⟨b1, g2⟩ := and_e g1
  obtain ⟨b2, g3⟩ := and_e g2
  obtain ⟨b3, g4⟩ := and_e g3
  obtain ⟨w0, w1, w2, w3, w4, rfl⟩ : ∃ w0 w1 w2 w3 w4 : Value, args = #[w0, w1, w2, w3, w4] := by
    have hs : args.size = 5 := by simpa [Cond.value, given_1] using gc
    obtain ⟨L⟩ := args
    match L, hs with
    | [w0, w1, w2, w3, w4], _ => exact ⟨w0, w1, w2, w3, w4, rfl⟩
  have hw := fun d (hd : d ∈ tables_1) => atoms_spec (ws := Jvm.Cond.code x code maxLocals ret :: tables_1) hat d (List.mem_cons_of_mem _ hd)
  obtain ⟨hsets, hown0⟩ := atoms_of _ (rest_1_c_eq ▸ (show rest_1_c.before _ s = true from hrest))
  obtain ⟨i0, ei0⟩ := isL_v b0
  obtain rfl : w0 = (.long i0) := Option.some.inj ei0
  obtain ⟨i1, ei1⟩ := is_v b1
  obtain rfl : w1 = (.int i1) := Option.some.inj ei1
  obtain ⟨i2, ei2⟩ := is_v b2
  obtain rfl : w2 = (.int i2) := Option.some.inj ei2
  obtain ⟨i3, ei3⟩ := is_v b3
  obtain rfl : w3 = (.int i3) := Option.some.inj ei3
  obtain ⟨i4, ei4⟩ := is_v g4
  obtain rfl : w4 = (.int i4) := Option.some.inj ei4
  obtain ⟨zc, ezc⟩ := is_v (Cond.before_iff.mp (hsets _ (List.mem_of_getElem? (i := 1) rfl)))
  have O2 : Sta s s.heap "java/lang/String" "COMPACT_STRINGS" "Z" (.int zc) := Sta.start ezc (Or.inl (hsets _ (List.mem_of_getElem? (i := 0) rfl)))
  have P5 : ¬ zc = 0 := gotF (Cond.eq_ints ezc (Term.int_eval (0))) (not_v (Cond.before_iff.mp (hsets _ (List.mem_of_getElem? (i := 2) rfl))))
  obtain ⟨fm, efm, rG3⟩ := isR_v (Cond.before_iff.mp (hsets _ (List.mem_of_getElem? (i := 8) rfl)))
  have O4 : Sta s s.heap "jdk/internal/util/Preconditions" "SIOOBE_FORMATTER" "Ljava/util/function/BiFunction;" fm := Sta.start efm (Or.inl (hsets _ (List.mem_of_getElem? (i := 7) rfl)))
  have hEL : EW s #[.long i0, .int i1, .int i2, .int i3, .int i4] ELs := (EW.cons (wd hw 111 rfl) (by decide) (EW.cons (wd hw 139 rfl) (by decide) (EW.cons (wd hw 268 rfl) (by decide) EW.nil)))
  have hCH : CHv s ELs s.vm s.heap := CHv.start hEL (fun p hp => hcalls.1 p ((by decide : ∀ p ∈ ELs, p ∈ consts_1) p hp)) (a0 := #[.long i0, .int i1, .int i2, .int i3, .int i4]) (hsets _ (List.mem_of_getElem? (i := 2) rfl)) (wd hw 19 rfl) (wd hw 1 rfl)
  have hD : Dig s := Dig.start (hsets _ (List.mem_of_getElem? (i := 10) rfl)) (hsets _ (List.mem_of_getElem? (i := 12) rfl)) (hsets _ (List.mem_of_getElem? (i := 13) rfl)) (hsets _ (List.mem_of_getElem? (i := 14) rfl)) (hsets _ (List.mem_of_getElem? (i := 15) rfl)) (hsets _ (List.mem_of_getElem? (i := 17) rfl)) (hsets _ (List.mem_of_getElem? (i := 18) rfl)) (hsets _ (List.mem_of_getElem? (i := 19) rfl)) (hsets _ (List.mem_of_getElem? (i := 9) rfl)) (wd hw 19 rfl)
  obtain ⟨n, o, h1, h2, h3, v, L, rfl, ⟨N, -, hv⟩, hC, hq⟩ := m_law l s _ hw tables_1 i0 i1 i2 i3 i4 hD zc O2 P5 fm O4 rG3 s.heap s.heap.size (Old.start s) hEL  p e ha hc hk s m _ below hf ((Spec.applies_iff_loose hf).mp happ).1 ⟨rfl, State.Warmed39.refl s, rfl, hCH, fun _ q => nomatch q⟩ trivial
  obtain rfl := hv
  refine ⟨n, _, h1, h2, h3, hpost _ _ _ _ _ _ ⟨Cond.after_iff.mpr rfl, Cond.after_iff.mpr (eq_i res_at (Term.int_eval (1)) rfl), trivial⟩ ⟨hq.1, hq.2.1, hq.2.2.1, (hq.2.2.2.sift fun y hy => Or.inr (N y hy)).mono (by decide) (by decide)⟩⟩
theorem main_1_1 : Claimed_1_1 := comes_1 fun _ _ _ _ _ _ h hF => ⟨h.1, hF⟩
theorem main_1_2 : Claimed_1_2 := comes_1 fun _ _ _ _ _ _ h hF => ⟨h.2.1, hF⟩
end Jvm.Pilot.@@N@@
namespace Jvm.Pilot.@@N@@
open Jvm Jvm.ClassFile Sem Op Lib Jvm.Free Jvm.Stand Jvm.Pilot.@@N@@.Jvm.D
/-! MADE BY PROGRAM (witnessworld.py) out of the Statement's table words and the real class files: 29 classes; the members and pool entries that the words name. The judged class is class 1, her method 1. -/
namespace start1
open Jvm.ClassFile
def u (s : String) : CpInfo := .utf8 (stringToUtf16 s)
/-- a pool by its gaps: so many unusable entries, then the entry; so many at the end -/
def gap : Nat → List CpInfo → List CpInfo
  | 0, r => r
  | n + 1, r => .unusable :: gap n r
def poolList (es : List (Nat × CpInfo)) (last : Nat) : List CpInfo := es.foldr (fun e r => gap e.1 (e.2 :: r)) (gap last [])
def pool (es : List (Nat × CpInfo)) (last : Nat) : Array CpInfo := ⟨poolList es last⟩
def fileOf (pool : Array CpInfo) (this : Nat) (attrs : Array Attribute := #[]) (ms : Array MethodInfo := #[]) (fl : Nat := 33) (sup : Nat := 0) (ifs : Array Nat := #[]) (fds : Array FieldInfo := #[]) : ClassFile where
  minorVersion := 0
  majorVersion := 65
  constantPool := pool
  accessFlags := fl
  thisClass := this
  superClass := sup
  interfaces := ifs
  fields := fds
  methods := ms
  attributes := attrs
def plain (name : String) (sup : Option ClassId) : Class where
  name := name
  kind := .ordinary
  loader := none
  accessFlags := 33
  super := sup
  interfaces := #[]
  cf := none
  fields := #[]
  methods := #[]
  instanceTypes := #[]
  staticTypes := #[]
  resolved := #[]
  callSites := []
  init := .initialized
  statics := none
  mirror := none

def pool0 : Array CpInfo := pool [(5, u "<init>"), (0, u "()V"), (1, .class_ 10), (1, u "java/lang/Object"), (85, u "clone"), (0, u "()Ljava/lang/Object;")] 26

def k0c0 : Code := { maxStack := 0, maxLocals := 1, code := object_method_1_code, exceptionTable := #[], attributes := #[] }
def k0m0 : Method := { name := "<init>", desc := "()V", sig := { parameters := [], returnType := none }, accessFlags := 1, code := some k0c0 }
def k0m1 : Method := { name := "clone", desc := "()Ljava/lang/Object;", sig := { parameters := [], returnType := some (.object "java/lang/Object") }, accessFlags := 260, code := none }
/-- java/lang/Object -/
def k0 : Class := { plain "java/lang/Object" none with
  accessFlags := 33
  interfaces := #[]
  cf := some (fileOf pool0 8 #[] #[{ accessFlags := 1, nameIndex := 5, descriptorIndex := 6, attributes := #[] }, { accessFlags := 260, nameIndex := 96, descriptorIndex := 97, attributes := #[] }] 33 0 #[] #[])
  fields := #[]
  methods := #[k0m0, k0m1]
  instanceTypes := #[]
  staticTypes := #[]
  resolved := Array.replicate 124 none
  statics := none }

def pool1 : Array CpInfo := pool [(2, .class_ 4), (1, u "java/lang/Object"), (0, u "<init>"), (0, u "()V"), (0, .class_ 8), (0, u "java/lang/String"), (0, .methodref 7 10), (0, .nameAndType 5 11), (0, u "([C)V"), (0, .class_ 13), (0, u "com/example/await_in_turn/awaitinturn/QueueEntry"), (0, .methodref 12 15), (0, .nameAndType 5 16), (0, u "(Ljava/lang/String;J)V"), (0, .methodref 12 18), (0, .nameAndType 19 20), (0, u "toString"), (0, u "()Ljava/lang/String;"), (0, .methodref 22 23), (0, .class_ 24), (0, .nameAndType 25 26), (0, u "com/example/await_in_turn/awaitinturn/QueueEntryToStringPinLaw"), (0, u "digits"), (0, u "(J)I"), (0, .methodref 7 28), (0, .nameAndType 29 30), (0, u "length"), (0, u "()I"), (0, .methodref 7 32), (0, .nameAndType 33 34), (0, u "charAt"), (0, u "(I)C"), (0, .methodref 22 36), (0, .nameAndType 37 38), (0, u "dig"), (0, u "(Ljava/lang/String;IJIIJ)Z"), (0, .long 10), (1, .long 100), (1, .long 1000), (1, .long 10000), (1, .long 100000), (1, .long 1000000), (1, .long 10000000), (1, .long 100000000), (1, .long 1000000000), (1, .long 10000000000), (1, .long 100000000000), (1, .long 1000000000000), (1, .long 10000000000000), (1, .long 100000000000000), (1, .long 1000000000000000), (1, .long 10000000000000000), (1, .long 100000000000000000), (1, .long 1000000000000000000), (1, .long 48), (1, .long 18446744073709551606), (1, .long 18446744073709551516), (1, .long 18446744073709550616), (1, .long 18446744073709541616), (1, .long 18446744073709451616), (1, .long 18446744073708551616), (1, .long 18446744073699551616), (1, .long 18446744073609551616), (1, .long 18446744072709551616), (1, .long 18446744063709551616), (1, .long 18446743973709551616), (1, .long 18446743073709551616), (1, .long 18446734073709551616), (1, .long 18446644073709551616), (1, .long 18445744073709551616), (1, .long 18436744073709551616), (1, .long 18346744073709551616), (1, .long 17446744073709551616), (3, u "law"), (0, u "(JIIII)Z")] 3

def k1m0 : Method := { name := "<init>", desc := "()V", sig := { parameters := [], returnType := none }, accessFlags := 1, code := none }
def k1c1 : Code := { maxStack := 8, maxLocals := 17, code := code, exceptionTable := #[], attributes := #[] }
def k1m1 : Method := { name := "law", desc := "(JIIII)Z", sig := { parameters := [.long, .int, .int, .int, .int], returnType := some .boolean }, accessFlags := 9, code := some k1c1 }
def k1c2 : Code := { maxStack := 5, maxLocals := 10, code := method_3_code, exceptionTable := #[], attributes := #[] }
def k1m2 : Method := { name := "dig", desc := "(Ljava/lang/String;IJIIJ)Z", sig := { parameters := [(.object "java/lang/String"), .int, .long, .int, .int, .long], returnType := some .boolean }, accessFlags := 10, code := some k1c2 }
def k1c3 : Code := { maxStack := 4, maxLocals := 2, code := method_4_code, exceptionTable := #[], attributes := #[] }
def k1m3 : Method := { name := "digits", desc := "(J)I", sig := { parameters := [.long], returnType := some .int }, accessFlags := 10, code := some k1c3 }
/-- com/example/await_in_turn/awaitinturn/QueueEntryToStringPinLaw -/
def k1 : Class := { plain "com/example/await_in_turn/awaitinturn/QueueEntryToStringPinLaw" (some 0) with
  accessFlags := 49
  interfaces := #[]
  cf := some (fileOf pool1 22 #[] #[{ accessFlags := 1, nameIndex := 5, descriptorIndex := 6, attributes := #[] }, { accessFlags := 9, nameIndex := 115, descriptorIndex := 116, attributes := #[] }, { accessFlags := 10, nameIndex := 37, descriptorIndex := 38, attributes := #[] }, { accessFlags := 10, nameIndex := 25, descriptorIndex := 26, attributes := #[] }] 49 2 #[] #[])
  fields := #[]
  methods := #[k1m0, k1m1, k1m2, k1m3]
  instanceTypes := #[]
  staticTypes := #[]
  resolved := Array.replicate 120 none
  statics := none }

def pool2 : Array CpInfo := pool [(1, .class_ 2), (0, u "java/io/Serializable"), (0, .class_ 4), (0, u "java/lang/Object")] 2

/-- java/io/Serializable -/
def k2 : Class := { plain "java/io/Serializable" (some 0) with
  accessFlags := 1537
  interfaces := #[]
  cf := some (fileOf pool2 1 #[] #[] 1537 3 #[] #[])
  fields := #[]
  methods := #[]
  instanceTypes := #[]
  staticTypes := #[]
  resolved := Array.replicate 7 none
  statics := none }

def pool3 : Array CpInfo := pool [(1, .class_ 2), (0, u "java/lang/Comparable"), (0, .class_ 4), (0, u "java/lang/Object")] 7

/-- java/lang/Comparable -/
def k3 : Class := { plain "java/lang/Comparable" (some 0) with
  accessFlags := 1537
  interfaces := #[]
  cf := some (fileOf pool3 1 #[] #[] 1537 3 #[] #[])
  fields := #[]
  methods := #[]
  instanceTypes := #[]
  staticTypes := #[]
  resolved := Array.replicate 12 none
  statics := none }

def pool4 : Array CpInfo := pool [(2, .class_ 4), (1, u "java/lang/CharSequence"), (42, .class_ 48), (0, u "java/lang/CharSequence$1CodePointIterator"), (10, .class_ 60), (0, u "java/lang/CharSequence$1CharIterator"), (5, .class_ 67), (0, u "java/lang/Object")] 63

/-- java/lang/CharSequence -/
def k4 : Class := { plain "java/lang/CharSequence" (some 0) with
  accessFlags := 1537
  interfaces := #[]
  cf := some (fileOf pool4 2 #[.nestMembers #[47, 59]] #[] 1537 66 #[] #[])
  fields := #[]
  methods := #[]
  instanceTypes := #[]
  staticTypes := #[]
  resolved := Array.replicate 131 none
  statics := none }

def pool5 : Array CpInfo := pool [(1, .class_ 2), (0, u "java/lang/constant/Constable"), (0, .class_ 4), (0, u "java/lang/Object")] 6

/-- java/lang/constant/Constable -/
def k5 : Class := { plain "java/lang/constant/Constable" (some 0) with
  accessFlags := 1537
  interfaces := #[]
  cf := some (fileOf pool5 1 #[] #[] 1537 3 #[] #[])
  fields := #[]
  methods := #[]
  instanceTypes := #[]
  staticTypes := #[]
  resolved := Array.replicate 11 none
  statics := none }

def pool6 : Array CpInfo := pool [(1, .class_ 2), (0, u "java/lang/constant/ConstantDesc"), (0, .class_ 4), (0, u "java/lang/Object")] 32

/-- java/lang/constant/ConstantDesc -/
def k6 : Class := { plain "java/lang/constant/ConstantDesc" (some 0) with
  accessFlags := 1537
  interfaces := #[]
  cf := some (fileOf pool6 1 #[] #[] 1537 3 #[] #[])
  fields := #[]
  methods := #[]
  instanceTypes := #[]
  staticTypes := #[]
  resolved := Array.replicate 37 none
  statics := none }

def pool7 : Array CpInfo := pool [(1, .methodref 2 3), (0, .class_ 4), (0, .nameAndType 5 6), (0, u "java/lang/Object"), (0, u "<init>"), (0, u "()V"), (0, .string 8), (0, u ""), (0, .fieldref 10 11), (0, .class_ 12), (0, .nameAndType 13 14), (0, u "java/lang/String"), (0, u "value"), (0, u "[B"), (0, .fieldref 10 16), (0, .nameAndType 17 18), (0, u "coder"), (0, u "B"), (2, u "hash"), (0, u "I"), (2, u "hashIsZero"), (0, u "Z"), (0, .methodref 10 28), (0, .nameAndType 5 29), (0, u "([CIILjava/lang/Void;)V"), (8, .fieldref 10 39), (0, .nameAndType 40 26), (0, u "COMPACT_STRINGS"), (1, .class_ 44), (1, u "java/lang/StringUTF16"), (0, u "compress"), (1, .methodref 42 48), (0, .nameAndType 49 50), (0, u "coderFromArrayLen"), (0, u "([BI)B"), (3, .methodref 55 56), (0, .class_ 57), (0, .nameAndType 58 59), (0, u "java/util/Arrays"), (0, u "copyOfRange"), (0, u "([BII)[B"), (47, .class_ 109), (1, u "java/lang/StringLatin1"), (32, u "()Z"), (34, .methodref 42 178), (0, .nameAndType 45 179), (0, u "([CII)[B"), (13, .class_ 195), (1, u "java/lang/System"), (16, .methodref 193 213), (0, .nameAndType 214 215), (0, u "arraycopy"), (0, u "(Ljava/lang/Object;ILjava/lang/Object;II)V"), (118, u "()I"), (0, .methodref 10 336), (0, .nameAndType 17 337), (0, u "()B"), (2, u "()[B"), (22, u "([BI)C"), (27, u "(II)V"), (35, u "(I)C"), (61, .methodref 10 490), (0, .nameAndType 5 491), (0, u "(Ljava/lang/AbstractStringBuilder;Ljava/lang/Void;)V"), (0, .methodref 10 493), (0, .nameAndType 494 142), (0, u "isLatin1"), (0, .methodref 107 496), (0, .nameAndType 497 363), (0, u "charAt"), (3, u "checkIndex"), (4, .nameAndType 507 334), (0, u "length"), (24, u "getBytes"), (16, .methodref 550 506), (0, .class_ 551), (0, u "java/lang/AbstractStringBuilder"), (0, .methodref 550 553), (0, .nameAndType 554 340), (0, u "getValue"), (20, .class_ 576), (0, u "java/lang/CharSequence"), (22, u "CASE_INSENSITIVE_ORDER"), (0, u "Ljava/util/Comparator;"), (220, u "([BIB)V"), (188, u "([C)V"), (36, .methodref 550 493), (5, .fieldref 1054 1055), (0, .class_ 1056), (0, .nameAndType 1057 1058), (0, u "jdk/internal/util/Preconditions"), (0, u "SIOOBE_FORMATTER"), (0, u "Ljava/util/function/BiFunction;"), (0, .methodref 1054 1060), (0, .nameAndType 501 1061), (0, u "(IILjava/util/function/BiFunction;)I"), (39, u "serialPersistentFields"), (0, u "[Ljava/io/ObjectStreamField;"), (0, .class_ 1104), (0, u "java/lang/String$CaseInsensitiveComparator"), (1, .class_ 1107), (0, u "java/io/Serializable"), (0, .class_ 1109), (0, u "java/lang/Comparable"), (0, .class_ 1111), (0, u "java/lang/constant/Constable"), (0, .class_ 1113), (0, u "java/lang/constant/ConstantDesc"), (2, u "serialVersionUID"), (0, u "J"), (3, u "REPL"), (0, u "C"), (2, u "LATIN1"), (1, u "UTF16"), (105, u "(Ljava/lang/StringBuilder;)V")] 217

def k7m0 : Method := { name := "<init>", desc := "()V", sig := { parameters := [], returnType := none }, accessFlags := 1, code := none }
def k7c1 : Code := { maxStack := 5, maxLocals := 2, code := jdk_42_method_3_code, exceptionTable := #[], attributes := #[] }
def k7m1 : Method := { name := "<init>", desc := "([C)V", sig := { parameters := [(.array .char)], returnType := none }, accessFlags := 1, code := some k7c1 }
def k7c2 : Code := { maxStack := 3, maxLocals := 2, code := jdk_42_method_53_code, exceptionTable := #[], attributes := #[] }
def k7m2 : Method := { name := "<init>", desc := "(Ljava/lang/StringBuilder;)V", sig := { parameters := [(.object "java/lang/StringBuilder")], returnType := none }, accessFlags := 1, code := some k7c2 }
def k7c3 : Code := { maxStack := 2, maxLocals := 1, code := jdk_42_method_54_code, exceptionTable := #[], attributes := #[] }
def k7m3 : Method := { name := "length", desc := "()I", sig := { parameters := [], returnType := some .int }, accessFlags := 1, code := some k7c3 }
def k7c4 : Code := { maxStack := 2, maxLocals := 2, code := jdk_42_method_56_code, exceptionTable := #[], attributes := #[] }
def k7m4 : Method := { name := "charAt", desc := "(I)C", sig := { parameters := [.int], returnType := some .char }, accessFlags := 1, code := some k7c4 }
def k7c5 : Code := { maxStack := 5, maxLocals := 4, code := jdk_42_method_147_code, exceptionTable := #[], attributes := #[] }
def k7m5 : Method := { name := "getBytes", desc := "([BIB)V", sig := { parameters := [(.array .byte), .int, .byte], returnType := none }, accessFlags := 0, code := some k7c5 }
def k7c6 : Code := { maxStack := 4, maxLocals := 6, code := jdk_42_method_149_code, exceptionTable := #[], attributes := #[] }
def k7m6 : Method := { name := "<init>", desc := "([CIILjava/lang/Void;)V", sig := { parameters := [(.array .char), .int, .int, (.object "java/lang/Void")], returnType := none }, accessFlags := 2, code := some k7c6 }
def k7c7 : Code := { maxStack := 5, maxLocals := 5, code := jdk_42_method_150_code, exceptionTable := #[], attributes := #[] }
def k7m7 : Method := { name := "<init>", desc := "(Ljava/lang/AbstractStringBuilder;Ljava/lang/Void;)V", sig := { parameters := [(.object "java/lang/AbstractStringBuilder"), (.object "java/lang/Void")], returnType := none }, accessFlags := 0, code := some k7c7 }
def k7c8 : Code := { maxStack := 1, maxLocals := 1, code := jdk_42_method_152_code, exceptionTable := #[], attributes := #[] }
def k7m8 : Method := { name := "coder", desc := "()B", sig := { parameters := [], returnType := some .byte }, accessFlags := 0, code := some k7c8 }
def k7c9 : Code := { maxStack := 1, maxLocals := 1, code := jdk_42_method_154_code, exceptionTable := #[], attributes := #[] }
def k7m9 : Method := { name := "isLatin1", desc := "()Z", sig := { parameters := [], returnType := some .boolean }, accessFlags := 0, code := some k7c9 }
def k7c10 : Code := { maxStack := 3, maxLocals := 2, code := jdk_42_method_155_code, exceptionTable := #[], attributes := #[] }
def k7m10 : Method := { name := "checkIndex", desc := "(II)V", sig := { parameters := [.int, .int], returnType := none }, accessFlags := 8, code := some k7c10 }
/-- java/lang/String -/
def k7 : Class := { plain "java/lang/String" (some 0) with
  accessFlags := 49
  interfaces := #[2, 3, 4, 5, 6]
  cf := some (fileOf pool7 10 #[.nestMembers #[1103]] #[{ accessFlags := 1, nameIndex := 5, descriptorIndex := 6, attributes := #[] }, { accessFlags := 1, nameIndex := 5, descriptorIndex := 1010, attributes := #[] }, { accessFlags := 1, nameIndex := 5, descriptorIndex := 1233, attributes := #[] }, { accessFlags := 1, nameIndex := 507, descriptorIndex := 334, attributes := #[] }, { accessFlags := 1, nameIndex := 497, descriptorIndex := 427, attributes := #[] }, { accessFlags := 0, nameIndex := 532, descriptorIndex := 821, attributes := #[] }, { accessFlags := 2, nameIndex := 5, descriptorIndex := 29, attributes := #[] }, { accessFlags := 0, nameIndex := 5, descriptorIndex := 491, attributes := #[] }, { accessFlags := 0, nameIndex := 17, descriptorIndex := 337, attributes := #[] }, { accessFlags := 0, nameIndex := 494, descriptorIndex := 142, attributes := #[] }, { accessFlags := 8, nameIndex := 501, descriptorIndex := 391, attributes := #[] }] 49 2 #[1106, 1108, 575, 1110, 1112] #[{ accessFlags := 18, nameIndex := 13, descriptorIndex := 14, attributes := #[] }, { accessFlags := 18, nameIndex := 17, descriptorIndex := 18, attributes := #[] }, { accessFlags := 2, nameIndex := 21, descriptorIndex := 22, attributes := #[] }, { accessFlags := 2, nameIndex := 25, descriptorIndex := 26, attributes := #[] }, { accessFlags := 26, nameIndex := 1116, descriptorIndex := 1117, attributes := #[] }, { accessFlags := 24, nameIndex := 40, descriptorIndex := 26, attributes := #[] }, { accessFlags := 26, nameIndex := 1101, descriptorIndex := 1102, attributes := #[] }, { accessFlags := 26, nameIndex := 1121, descriptorIndex := 1122, attributes := #[] }, { accessFlags := 25, nameIndex := 599, descriptorIndex := 600, attributes := #[] }, { accessFlags := 24, nameIndex := 1125, descriptorIndex := 18, attributes := #[] }, { accessFlags := 24, nameIndex := 1127, descriptorIndex := 18, attributes := #[] }])
  fields := #[{ name := "value", type := (.array .byte), accessFlags := 18, slot := 0, constantValue := 0 }, { name := "coder", type := .byte, accessFlags := 18, slot := 1, constantValue := 0 }, { name := "hash", type := .int, accessFlags := 2, slot := 2, constantValue := 0 }, { name := "hashIsZero", type := .boolean, accessFlags := 2, slot := 3, constantValue := 0 }, { name := "serialVersionUID", type := .long, accessFlags := 26, slot := 0, constantValue := 0 }, { name := "COMPACT_STRINGS", type := .boolean, accessFlags := 24, slot := 1, constantValue := 0 }, { name := "serialPersistentFields", type := (.array (.object "java/io/ObjectStreamField")), accessFlags := 26, slot := 2, constantValue := 0 }, { name := "REPL", type := .char, accessFlags := 26, slot := 3, constantValue := 0 }, { name := "CASE_INSENSITIVE_ORDER", type := (.object "java/util/Comparator"), accessFlags := 25, slot := 4, constantValue := 0 }, { name := "LATIN1", type := .byte, accessFlags := 24, slot := 5, constantValue := 0 }, { name := "UTF16", type := .byte, accessFlags := 24, slot := 6, constantValue := 0 }]
  methods := #[k7m0, k7m1, k7m2, k7m3, k7m4, k7m5, k7m6, k7m7, k7m8, k7m9, k7m10]
  instanceTypes := #[(.array .byte), .byte, .int, .boolean]
  staticTypes := #[.long, .boolean, (.array (.object "java/io/ObjectStreamField")), .char, (.object "java/util/Comparator"), .byte, .byte]
  resolved := Array.replicate 1451 none
  statics := some 0 }

def pool8 : Array CpInfo := pool [(6, .class_ 8), (1, u "java/lang/Object"), (0, u "<init>"), (0, u "()V"), (1, .class_ 14), (1, u "java/lang/StringUTF16"), (31, u "$assertionsDisabled"), (0, u "Z"), (13, u "HI_BYTE_SHIFT"), (0, u "I"), (2, u "LO_BYTE_SHIFT"), (49, .methodref 12 116), (0, .nameAndType 117 118), (0, u "compress"), (0, u "([CI[BII)I"), (3, u "([CII)[B"), (138, u "coderFromArrayLen"), (0, u "([BI)B"), (106, .class_ 371), (1, u "java/lang/StringUTF16$LinesSpliterator"), (58, u "MAX_LENGTH"), (196, .class_ 628), (0, u "java/lang/StringUTF16$CodePointsSpliterator"), (0, .class_ 630), (0, u "java/lang/StringUTF16$CharsSpliterator")] 4

def k8m0 : Method := { name := "<init>", desc := "()V", sig := { parameters := [], returnType := none }, accessFlags := 0, code := none }
def k8c1 : Code := { maxStack := 2, maxLocals := 2, code := jdk_52_method_15_code, exceptionTable := #[], attributes := #[] }
def k8m1 : Method := { name := "coderFromArrayLen", desc := "([BI)B", sig := { parameters := [(.array .byte), .int], returnType := some .byte }, accessFlags := 8, code := some k8c1 }
def k8c2 : Code := { maxStack := 5, maxLocals := 6, code := jdk_52_method_16_code, exceptionTable := #[], attributes := #[] }
def k8m2 : Method := { name := "compress", desc := "([CII)[B", sig := { parameters := [(.array .char), .int, .int], returnType := some (.array .byte) }, accessFlags := 9, code := some k8c2 }
def k8c3 : Code := { maxStack := 3, maxLocals := 7, code := jdk_52_method_21_code, exceptionTable := #[], attributes := #[] }
def k8m3 : Method := { name := "compress", desc := "([CI[BII)I", sig := { parameters := [(.array .char), .int, (.array .byte), .int, .int], returnType := some .int }, accessFlags := 9, code := some k8c3 }
/-- java/lang/StringUTF16 -/
def k8 : Class := { plain "java/lang/StringUTF16" (some 0) with
  accessFlags := 48
  interfaces := #[]
  cf := some (fileOf pool8 12 #[.nestMembers #[627, 629, 369]] #[{ accessFlags := 0, nameIndex := 9, descriptorIndex := 10, attributes := #[] }, { accessFlags := 8, nameIndex := 261, descriptorIndex := 262, attributes := #[] }, { accessFlags := 9, nameIndex := 117, descriptorIndex := 122, attributes := #[] }, { accessFlags := 9, nameIndex := 117, descriptorIndex := 118, attributes := #[] }] 48 6 #[] #[{ accessFlags := 26, nameIndex := 61, descriptorIndex := 62, attributes := #[] }, { accessFlags := 26, nameIndex := 65, descriptorIndex := 62, attributes := #[] }, { accessFlags := 24, nameIndex := 430, descriptorIndex := 62, attributes := #[] }, { accessFlags := 4120, nameIndex := 46, descriptorIndex := 47, attributes := #[] }])
  fields := #[{ name := "HI_BYTE_SHIFT", type := .int, accessFlags := 26, slot := 0, constantValue := 0 }, { name := "LO_BYTE_SHIFT", type := .int, accessFlags := 26, slot := 1, constantValue := 0 }, { name := "MAX_LENGTH", type := .int, accessFlags := 24, slot := 2, constantValue := 0 }, { name := "$assertionsDisabled", type := .boolean, accessFlags := 4120, slot := 3, constantValue := 0 }]
  methods := #[k8m0, k8m1, k8m2, k8m3]
  instanceTypes := #[]
  staticTypes := #[.int, .int, .int, .boolean]
  resolved := Array.replicate 635 none
  statics := none }

def pool9 : Array CpInfo := pool [(1, .methodref 2 3), (0, .class_ 4), (0, .nameAndType 5 6), (0, u "java/lang/Object"), (0, u "<init>"), (0, u "()V"), (0, .fieldref 8 9), (0, .class_ 10), (0, .nameAndType 11 12), (0, u "com/example/await_in_turn/awaitinturn/QueueEntry"), (0, u "id"), (0, u "Ljava/lang/String;"), (0, .fieldref 8 14), (0, .nameAndType 15 16), (0, u "token"), (0, u "J"), (0, .class_ 18), (0, u "java/lang/StringBuilder"), (0, .methodref 17 3), (0, .methodref 17 21), (0, .nameAndType 22 23), (0, u "append"), (0, u "(Ljava/lang/String;)Ljava/lang/StringBuilder;"), (0, .string 25), (0, u " (token "), (0, .methodref 17 27), (0, .nameAndType 22 28), (0, u "(J)Ljava/lang/StringBuilder;"), (0, .string 30), (0, u ")"), (0, .methodref 17 32), (0, .nameAndType 33 34), (0, u "toString"), (0, u "()Ljava/lang/String;"), (0, u "(Ljava/lang/String;J)V")] 5

def k9c0 : Code := { maxStack := 3, maxLocals := 4, code := prog_10_method_1_code, exceptionTable := #[], attributes := #[] }
def k9m0 : Method := { name := "<init>", desc := "(Ljava/lang/String;J)V", sig := { parameters := [(.object "java/lang/String"), .long], returnType := none }, accessFlags := 1, code := some k9c0 }
def k9c1 : Code := { maxStack := 3, maxLocals := 1, code := prog_10_method_4_code, exceptionTable := #[], attributes := #[] }
def k9m1 : Method := { name := "toString", desc := "()Ljava/lang/String;", sig := { parameters := [], returnType := some (.object "java/lang/String") }, accessFlags := 1, code := some k9c1 }
/-- com/example/await_in_turn/awaitinturn/QueueEntry -/
def k9 : Class := { plain "com/example/await_in_turn/awaitinturn/QueueEntry" (some 0) with
  accessFlags := 49
  interfaces := #[]
  cf := some (fileOf pool9 8 #[] #[{ accessFlags := 1, nameIndex := 5, descriptorIndex := 35, attributes := #[] }, { accessFlags := 1, nameIndex := 33, descriptorIndex := 34, attributes := #[] }] 49 2 #[] #[{ accessFlags := 18, nameIndex := 11, descriptorIndex := 12, attributes := #[] }, { accessFlags := 18, nameIndex := 15, descriptorIndex := 16, attributes := #[] }])
  fields := #[{ name := "id", type := (.object "java/lang/String"), accessFlags := 18, slot := 0, constantValue := 0 }, { name := "token", type := .long, accessFlags := 18, slot := 1, constantValue := 0 }]
  methods := #[k9m0, k9m1]
  instanceTypes := #[(.object "java/lang/String"), .long]
  staticTypes := #[]
  resolved := Array.replicate 41 none
  statics := none }

def pool10 : Array CpInfo := pool [(1, .class_ 2), (0, u "java/lang/Appendable"), (0, .class_ 4), (0, u "java/lang/Object")] 9

/-- java/lang/Appendable -/
def k10 : Class := { plain "java/lang/Appendable" (some 0) with
  accessFlags := 1537
  interfaces := #[]
  cf := some (fileOf pool10 1 #[] #[] 1537 3 #[] #[])
  fields := #[]
  methods := #[]
  instanceTypes := #[]
  staticTypes := #[]
  resolved := Array.replicate 14 none
  statics := none }

def pool11 : Array CpInfo := pool [(1, .class_ 2), (0, u "java/lang/String"), (0, .methodref 4 5), (0, .class_ 6), (0, .nameAndType 7 8), (0, u "java/lang/Object"), (0, u "<init>"), (0, u "()V"), (1, .class_ 12), (1, u "java/lang/AbstractStringBuilder"), (0, u "EMPTYVALUE"), (0, u "[B"), (0, .fieldref 10 16), (0, .nameAndType 17 14), (0, u "value"), (0, .fieldref 1 19), (0, .nameAndType 20 21), (0, u "COMPACT_STRINGS"), (0, u "Z"), (0, .fieldref 10 23), (0, .nameAndType 24 25), (0, u "coder"), (0, u "B"), (6, .methodref 1 33), (0, .nameAndType 34 35), (0, u "length"), (0, u "()I"), (3, .integer 2147483647), (0, .methodref 1 41), (0, .nameAndType 24 42), (0, u "()B"), (2, u "append"), (0, u "(Ljava/lang/String;)Ljava/lang/AbstractStringBuilder;"), (1, .class_ 49), (0, u "java/lang/CharSequence"), (19, u "(Ljava/lang/String;)V"), (5, u "maybeLatin1"), (3, .fieldref 10 80), (0, .nameAndType 81 82), (0, u "count"), (0, u "I"), (0, .methodref 10 84), (0, .nameAndType 85 86), (0, u "isLatin1"), (0, u "()Z"), (13, .methodref 10 101), (0, .nameAndType 102 103), (0, u "ensureCapacityInternal"), (0, u "(I)V"), (0, .methodref 10 105), (0, .nameAndType 106 107), (0, u "newCapacity"), (0, u "(I)I"), (0, .methodref 109 110), (0, .class_ 111), (0, .nameAndType 112 113), (0, u "java/util/Arrays"), (0, u "copyOf"), (0, u "([BI)[B"), (0, .methodref 115 116), (0, .class_ 117), (0, .nameAndType 118 119), (0, u "jdk/internal/util/ArraysSupport"), (0, u "newLength"), (0, u "(III)I"), (68, u "getChars"), (19, .methodref 10 209), (0, .nameAndType 210 211), (0, u "putStringAt"), (0, u "(ILjava/lang/String;)V"), (5, u "inflateIfNeededFor"), (2, .nameAndType 221 222), (0, u "getBytes"), (0, u "([BIB)V"), (24, u "stringSize"), (6, .methodref 255 256), (0, .class_ 257), (0, .nameAndType 247 258), (0, u "java/lang/Long"), (0, u "(J)I"), (0, .methodref 255 260), (0, .nameAndType 188 261), (0, u "(JI[B)I"), (135, .methodref 10 398), (0, .nameAndType 217 69), (0, .methodref 1 220), (3, u "()[B"), (40, .class_ 445), (0, u "java/lang/Appendable"), (67, u "(J)Ljava/lang/AbstractStringBuilder;"), (38, u "getValue")] 56

def k11m0 : Method := { name := "<init>", desc := "()V", sig := { parameters := [], returnType := none }, accessFlags := 0, code := none }
def k11c1 : Code := { maxStack := 2, maxLocals := 2, code := jdk_68_method_2_code, exceptionTable := #[], attributes := #[] }
def k11m1 : Method := { name := "<init>", desc := "(I)V", sig := { parameters := [.int], returnType := none }, accessFlags := 0, code := some k11c1 }
def k11c2 : Code := { maxStack := 1, maxLocals := 1, code := jdk_68_method_6_code, exceptionTable := #[], attributes := #[] }
def k11m2 : Method := { name := "length", desc := "()I", sig := { parameters := [], returnType := some .int }, accessFlags := 1, code := some k11c2 }
def k11c3 : Code := { maxStack := 4, maxLocals := 3, code := jdk_68_method_9_code, exceptionTable := #[], attributes := #[] }
def k11m3 : Method := { name := "ensureCapacityInternal", desc := "(I)V", sig := { parameters := [.int], returnType := none }, accessFlags := 2, code := some k11c3 }
def k11c4 : Code := { maxStack := 5, maxLocals := 6, code := jdk_68_method_10_code, exceptionTable := #[], attributes := #[] }
def k11m4 : Method := { name := "newCapacity", desc := "(I)I", sig := { parameters := [.int], returnType := some .int }, accessFlags := 2, code := some k11c4 }
def k11c5 : Code := { maxStack := 3, maxLocals := 3, code := jdk_68_method_22_code, exceptionTable := #[], attributes := #[] }
def k11m5 : Method := { name := "append", desc := "(Ljava/lang/String;)Ljava/lang/AbstractStringBuilder;", sig := { parameters := [(.object "java/lang/String")], returnType := some (.object "java/lang/AbstractStringBuilder") }, accessFlags := 1, code := some k11c5 }
def k11c6 : Code := { maxStack := 5, maxLocals := 5, code := jdk_68_method_33_code, exceptionTable := #[], attributes := #[] }
def k11m6 : Method := { name := "append", desc := "(J)Ljava/lang/AbstractStringBuilder;", sig := { parameters := [.long], returnType := some (.object "java/lang/AbstractStringBuilder") }, accessFlags := 1, code := some k11c6 }
def k11c7 : Code := { maxStack := 1, maxLocals := 1, code := jdk_68_method_64_code, exceptionTable := #[], attributes := #[] }
def k11m7 : Method := { name := "getValue", desc := "()[B", sig := { parameters := [], returnType := some (.array .byte) }, accessFlags := 16, code := some k11c7 }
def k11c8 : Code := { maxStack := 1, maxLocals := 1, code := jdk_68_method_68_code, exceptionTable := #[], attributes := #[] }
def k11m8 : Method := { name := "isLatin1", desc := "()Z", sig := { parameters := [], returnType := some .boolean }, accessFlags := 16, code := some k11c8 }
def k11c9 : Code := { maxStack := 2, maxLocals := 2, code := jdk_68_method_71_code, exceptionTable := #[], attributes := #[] }
def k11m9 : Method := { name := "inflateIfNeededFor", desc := "(Ljava/lang/String;)V", sig := { parameters := [(.object "java/lang/String")], returnType := none }, accessFlags := 2, code := some k11c9 }
def k11c10 : Code := { maxStack := 4, maxLocals := 3, code := jdk_68_method_73_code, exceptionTable := #[], attributes := #[] }
def k11m10 : Method := { name := "putStringAt", desc := "(ILjava/lang/String;)V", sig := { parameters := [.int, (.object "java/lang/String")], returnType := none }, accessFlags := 2, code := some k11c10 }
/-- java/lang/AbstractStringBuilder -/
def k11 : Class := { plain "java/lang/AbstractStringBuilder" (some 0) with
  accessFlags := 1056
  interfaces := #[10, 4]
  cf := some (fileOf pool11 10 #[] #[{ accessFlags := 0, nameIndex := 7, descriptorIndex := 8, attributes := #[] }, { accessFlags := 0, nameIndex := 7, descriptorIndex := 103, attributes := #[] }, { accessFlags := 1, nameIndex := 34, descriptorIndex := 35, attributes := #[] }, { accessFlags := 2, nameIndex := 102, descriptorIndex := 103, attributes := #[] }, { accessFlags := 2, nameIndex := 106, descriptorIndex := 107, attributes := #[] }, { accessFlags := 1, nameIndex := 45, descriptorIndex := 46, attributes := #[] }, { accessFlags := 1, nameIndex := 45, descriptorIndex := 513, attributes := #[] }, { accessFlags := 16, nameIndex := 552, descriptorIndex := 403, attributes := #[] }, { accessFlags := 16, nameIndex := 85, descriptorIndex := 86, attributes := #[] }, { accessFlags := 2, nameIndex := 217, descriptorIndex := 69, attributes := #[] }, { accessFlags := 2, nameIndex := 210, descriptorIndex := 211, attributes := #[] }] 1056 4 #[444, 48] #[{ accessFlags := 0, nameIndex := 17, descriptorIndex := 14, attributes := #[] }, { accessFlags := 0, nameIndex := 24, descriptorIndex := 25, attributes := #[] }, { accessFlags := 0, nameIndex := 75, descriptorIndex := 21, attributes := #[] }, { accessFlags := 0, nameIndex := 81, descriptorIndex := 82, attributes := #[] }, { accessFlags := 26, nameIndex := 13, descriptorIndex := 14, attributes := #[] }])
  fields := #[{ name := "value", type := (.array .byte), accessFlags := 0, slot := 0, constantValue := 0 }, { name := "coder", type := .byte, accessFlags := 0, slot := 1, constantValue := 0 }, { name := "maybeLatin1", type := .boolean, accessFlags := 0, slot := 2, constantValue := 0 }, { name := "count", type := .int, accessFlags := 0, slot := 3, constantValue := 0 }, { name := "EMPTYVALUE", type := (.array .byte), accessFlags := 26, slot := 0, constantValue := 0 }]
  methods := #[k11m0, k11m1, k11m2, k11m3, k11m4, k11m5, k11m6, k11m7, k11m8, k11m9, k11m10]
  instanceTypes := #[(.array .byte), .byte, .boolean, .int]
  staticTypes := #[(.array .byte)]
  resolved := Array.replicate 609 none
  statics := none }

def pool12 : Array CpInfo := pool [(1, .methodref 2 3), (0, .class_ 4), (0, .nameAndType 5 6), (0, u "java/lang/AbstractStringBuilder"), (0, u "<init>"), (0, u "(I)V"), (11, .class_ 20), (1, u "java/lang/String"), (3, .class_ 26), (1, u "java/lang/StringBuilder"), (0, u "append"), (0, u "(Ljava/lang/String;)Ljava/lang/StringBuilder;"), (0, .methodref 2 30), (0, .nameAndType 27 31), (0, u "(Ljava/lang/String;)Ljava/lang/AbstractStringBuilder;"), (24, .methodref 2 57), (0, .nameAndType 27 58), (0, u "(J)Ljava/lang/AbstractStringBuilder;"), (78, .methodref 18 138), (0, .nameAndType 5 139), (0, u "(Ljava/lang/StringBuilder;)V"), (5, u "()V"), (10, u "()I"), (124, u "(J)Ljava/lang/StringBuilder;"), (61, .methodref 2 344), (0, .nameAndType 345 156), (0, u "length"), (3, .class_ 350), (0, u "java/lang/Appendable"), (0, .class_ 352), (0, u "java/io/Serializable"), (0, .class_ 354), (0, u "java/lang/Comparable"), (0, .class_ 356), (0, u "java/lang/CharSequence"), (0, u "serialVersionUID"), (0, u "J"), (40, u "toString"), (0, u "()Ljava/lang/String;")] 21

def k12c0 : Code := { maxStack := 2, maxLocals := 1, code := jdk_67_method_1_code, exceptionTable := #[], attributes := #[] }
def k12m0 : Method := { name := "<init>", desc := "()V", sig := { parameters := [], returnType := none }, accessFlags := 1, code := some k12c0 }
def k12c1 : Code := { maxStack := 2, maxLocals := 2, code := jdk_67_method_7_code, exceptionTable := #[], attributes := #[] }
def k12m1 : Method := { name := "append", desc := "(Ljava/lang/String;)Ljava/lang/StringBuilder;", sig := { parameters := [(.object "java/lang/String")], returnType := some (.object "java/lang/StringBuilder") }, accessFlags := 1, code := some k12c1 }
def k12c2 : Code := { maxStack := 3, maxLocals := 3, code := jdk_67_method_16_code, exceptionTable := #[], attributes := #[] }
def k12m2 : Method := { name := "append", desc := "(J)Ljava/lang/StringBuilder;", sig := { parameters := [.long], returnType := some (.object "java/lang/StringBuilder") }, accessFlags := 1, code := some k12c2 }
def k12c3 : Code := { maxStack := 3, maxLocals := 1, code := jdk_67_method_42_code, exceptionTable := #[], attributes := #[] }
def k12m3 : Method := { name := "toString", desc := "()Ljava/lang/String;", sig := { parameters := [], returnType := some (.object "java/lang/String") }, accessFlags := 1, code := some k12c3 }
def k12c4 : Code := { maxStack := 1, maxLocals := 1, code := jdk_67_method_93_code, exceptionTable := #[], attributes := #[] }
def k12m4 : Method := { name := "length", desc := "()I", sig := { parameters := [], returnType := some .int }, accessFlags := 4161, code := some k12c4 }
/-- java/lang/StringBuilder -/
def k12 : Class := { plain "java/lang/StringBuilder" (some 11) with
  accessFlags := 49
  interfaces := #[10, 2, 3, 4]
  cf := some (fileOf pool12 24 #[] #[{ accessFlags := 1, nameIndex := 5, descriptorIndex := 145, attributes := #[] }, { accessFlags := 1, nameIndex := 27, descriptorIndex := 28, attributes := #[] }, { accessFlags := 1, nameIndex := 27, descriptorIndex := 281, attributes := #[] }, { accessFlags := 1, nameIndex := 399, descriptorIndex := 400, attributes := #[] }, { accessFlags := 4161, nameIndex := 345, descriptorIndex := 156, attributes := #[] }] 49 2 #[349, 351, 353, 355] #[{ accessFlags := 24, nameIndex := 357, descriptorIndex := 358, attributes := #[] }])
  fields := #[{ name := "serialVersionUID", type := .long, accessFlags := 24, slot := 0, constantValue := 0 }]
  methods := #[k12m0, k12m1, k12m2, k12m3, k12m4]
  instanceTypes := #[(.array .byte), .byte, .boolean, .int]
  staticTypes := #[.long]
  resolved := Array.replicate 422 none
  statics := none }

def pool13 : Array CpInfo := pool [(2, .class_ 4), (1, u "java/lang/Object"), (0, u "<init>"), (0, u "()V"), (1, .class_ 10), (1, u "java/lang/System"), (0, u "allowSecurityManager"), (0, u "I"), (16, u "cons"), (0, u "Ljava/io/Console;"), (77, .class_ 110), (1, u "java/lang/System$CallersHolder"), (43, u "initialErrStream"), (0, u "Ljava/io/PrintStream;"), (19, u "security"), (0, u "Ljava/lang/SecurityManager;"), (31, .class_ 209), (0, u "java/lang/System$1"), (7, u "props"), (0, u "Ljava/util/Properties;"), (2, u "lineSeparator"), (0, u "Ljava/lang/String;"), (96, .class_ 321), (1, u "java/lang/System$LoggerFinder"), (5, .class_ 328), (0, u "java/lang/System$Logger"), (67, u "err"), (2, u "out"), (91, u "notSupportedJnuEncoding"), (15, u "in"), (17, u "initialIn"), (0, u "Ljava/io/InputStream;"), (35, u "bootLayer"), (0, u "Ljava/lang/ModuleLayer;"), (99, .class_ 664), (0, u "java/lang/System$2"), (9, u "NEVER"), (2, u "MAYBE"), (49, u "arraycopy"), (0, u "(Ljava/lang/Object;ILjava/lang/Object;II)V"), (72, .class_ 802), (0, u "java/lang/System$Logger$Level")] 31

def k13m0 : Method := { name := "<init>", desc := "()V", sig := { parameters := [], returnType := none }, accessFlags := 2, code := none }
def k13m1 : Method := { name := "arraycopy", desc := "(Ljava/lang/Object;ILjava/lang/Object;II)V", sig := { parameters := [(.object "java/lang/Object"), .int, (.object "java/lang/Object"), .int, .int], returnType := none }, accessFlags := 265, code := none }
/-- java/lang/System -/
def k13 : Class := { plain "java/lang/System" (some 0) with
  accessFlags := 49
  interfaces := #[]
  cf := some (fileOf pool13 8 #[.nestMembers #[319, 327, 801, 108, 663, 208]] #[{ accessFlags := 2, nameIndex := 5, descriptorIndex := 6, attributes := #[] }, { accessFlags := 265, nameIndex := 727, descriptorIndex := 728, attributes := #[] }] 49 2 #[] #[{ accessFlags := 25, nameIndex := 507, descriptorIndex := 526, attributes := #[] }, { accessFlags := 25, nameIndex := 399, descriptorIndex := 155, attributes := #[] }, { accessFlags := 25, nameIndex := 396, descriptorIndex := 155, attributes := #[] }, { accessFlags := 10, nameIndex := 525, descriptorIndex := 526, attributes := #[] }, { accessFlags := 26, nameIndex := 674, descriptorIndex := 12, attributes := #[] }, { accessFlags := 26, nameIndex := 677, descriptorIndex := 12, attributes := #[] }, { accessFlags := 10, nameIndex := 11, descriptorIndex := 12, attributes := #[] }, { accessFlags := 74, nameIndex := 175, descriptorIndex := 176, attributes := #[] }, { accessFlags := 10, nameIndex := 491, descriptorIndex := 222, attributes := #[] }, { accessFlags := 74, nameIndex := 29, descriptorIndex := 30, attributes := #[] }, { accessFlags := 74, nameIndex := 154, descriptorIndex := 155, attributes := #[] }, { accessFlags := 10, nameIndex := 217, descriptorIndex := 218, attributes := #[] }, { accessFlags := 10, nameIndex := 221, descriptorIndex := 222, attributes := #[] }, { accessFlags := 8, nameIndex := 562, descriptorIndex := 563, attributes := #[] }])
  fields := #[{ name := "in", type := (.object "java/io/InputStream"), accessFlags := 25, slot := 0, constantValue := 0 }, { name := "out", type := (.object "java/io/PrintStream"), accessFlags := 25, slot := 1, constantValue := 0 }, { name := "err", type := (.object "java/io/PrintStream"), accessFlags := 25, slot := 2, constantValue := 0 }, { name := "initialIn", type := (.object "java/io/InputStream"), accessFlags := 10, slot := 3, constantValue := 0 }, { name := "NEVER", type := .int, accessFlags := 26, slot := 4, constantValue := 0 }, { name := "MAYBE", type := .int, accessFlags := 26, slot := 5, constantValue := 0 }, { name := "allowSecurityManager", type := .int, accessFlags := 10, slot := 6, constantValue := 0 }, { name := "security", type := (.object "java/lang/SecurityManager"), accessFlags := 74, slot := 7, constantValue := 0 }, { name := "notSupportedJnuEncoding", type := (.object "java/lang/String"), accessFlags := 10, slot := 8, constantValue := 0 }, { name := "cons", type := (.object "java/io/Console"), accessFlags := 74, slot := 9, constantValue := 0 }, { name := "initialErrStream", type := (.object "java/io/PrintStream"), accessFlags := 74, slot := 10, constantValue := 0 }, { name := "props", type := (.object "java/util/Properties"), accessFlags := 10, slot := 11, constantValue := 0 }, { name := "lineSeparator", type := (.object "java/lang/String"), accessFlags := 10, slot := 12, constantValue := 0 }, { name := "bootLayer", type := (.object "java/lang/ModuleLayer"), accessFlags := 8, slot := 13, constantValue := 0 }]
  methods := #[k13m0, k13m1]
  instanceTypes := #[]
  staticTypes := #[(.object "java/io/InputStream"), (.object "java/io/PrintStream"), (.object "java/io/PrintStream"), (.object "java/io/InputStream"), .int, .int, .int, (.object "java/lang/SecurityManager"), (.object "java/lang/String"), (.object "java/io/Console"), (.object "java/io/PrintStream"), (.object "java/util/Properties"), (.object "java/lang/String"), (.object "java/lang/ModuleLayer")]
  resolved := Array.replicate 834 none
  statics := none }

def pool14 : Array CpInfo := pool [(2, .class_ 4), (1, u "java/lang/Object"), (0, u "<init>"), (0, u "()V"), (1, .class_ 10), (1, u "java/lang/Number"), (2, .class_ 14), (0, u "java/io/Serializable"), (0, u "serialVersionUID"), (0, u "J")] 20

def k14m0 : Method := { name := "<init>", desc := "()V", sig := { parameters := [], returnType := none }, accessFlags := 1, code := none }
/-- java/lang/Number -/
def k14 : Class := { plain "java/lang/Number" (some 0) with
  accessFlags := 1057
  interfaces := #[2]
  cf := some (fileOf pool14 8 #[] #[{ accessFlags := 1, nameIndex := 5, descriptorIndex := 6, attributes := #[] }] 1057 2 #[13] #[{ accessFlags := 26, nameIndex := 15, descriptorIndex := 16, attributes := #[] }])
  fields := #[{ name := "serialVersionUID", type := .long, accessFlags := 26, slot := 0, constantValue := 0 }]
  methods := #[k14m0]
  instanceTypes := #[]
  staticTypes := #[.long]
  resolved := Array.replicate 37 none
  statics := none }

def pool15 : Array CpInfo := pool [(1, .class_ 2), (0, u "java/lang/Long"), (15, .class_ 20), (1, u "java/lang/Integer"), (32, .long 10), (47, u "(J)I"), (18, u "stringSize"), (2, u "getChars"), (0, u "(JI[B)I"), (4, .long 18446744071562067968), (1, .long 100), (1, .fieldref 18 134), (0, .nameAndType 135 136), (0, u "DigitOnes"), (0, u "[B"), (0, .fieldref 18 138), (0, .nameAndType 139 136), (0, u "DigitTens"), (0, .long 18446744073709551606), (94, .class_ 237), (1, u "java/lang/Long$LongCache"), (33, .class_ 272), (0, u "java/lang/Number"), (2, u "value"), (0, u "J"), (84, u "TYPE"), (0, u "Ljava/lang/Class;"), (0, .class_ 364), (0, u "java/lang/Comparable"), (0, .class_ 366), (0, u "java/lang/constant/Constable"), (0, .class_ 368), (0, u "java/lang/constant/ConstantDesc"), (0, u "MIN_VALUE"), (1, u "MAX_VALUE"), (4, u "SIZE"), (0, u "I"), (1, u "BYTES"), (1, u "serialVersionUID")] 142

def k15c0 : Code := { maxStack := 4, maxLocals := 11, code := jdk_35_method_14_code, exceptionTable := #[], attributes := #[] }
def k15m0 : Method := { name := "getChars", desc := "(JI[B)I", sig := { parameters := [.long, .int, (.array .byte)], returnType := some .int }, accessFlags := 8, code := some k15c0 }
def k15c1 : Code := { maxStack := 4, maxLocals := 6, code := jdk_35_method_15_code, exceptionTable := #[], attributes := #[] }
def k15m1 : Method := { name := "stringSize", desc := "(J)I", sig := { parameters := [.long], returnType := some .int }, accessFlags := 8, code := some k15c1 }
/-- java/lang/Long -/
def k15 : Class := { plain "java/lang/Long" (some 14) with
  accessFlags := 49
  interfaces := #[3, 5, 6]
  cf := some (fileOf pool15 1 #[.nestMembers #[235]] #[{ accessFlags := 8, nameIndex := 123, descriptorIndex := 124, attributes := #[] }, { accessFlags := 8, nameIndex := 120, descriptorIndex := 101, attributes := #[] }] 49 271 #[363, 365, 367] #[{ accessFlags := 25, nameIndex := 369, descriptorIndex := 276, attributes := #[] }, { accessFlags := 25, nameIndex := 371, descriptorIndex := 276, attributes := #[] }, { accessFlags := 25, nameIndex := 361, descriptorIndex := 362, attributes := #[] }, { accessFlags := 18, nameIndex := 275, descriptorIndex := 276, attributes := #[] }, { accessFlags := 25, nameIndex := 376, descriptorIndex := 377, attributes := #[] }, { accessFlags := 25, nameIndex := 379, descriptorIndex := 377, attributes := #[] }, { accessFlags := 26, nameIndex := 381, descriptorIndex := 276, attributes := #[] }])
  fields := #[{ name := "MIN_VALUE", type := .long, accessFlags := 25, slot := 0, constantValue := 0 }, { name := "MAX_VALUE", type := .long, accessFlags := 25, slot := 1, constantValue := 0 }, { name := "TYPE", type := (.object "java/lang/Class"), accessFlags := 25, slot := 2, constantValue := 0 }, { name := "value", type := .long, accessFlags := 18, slot := 0, constantValue := 0 }, { name := "SIZE", type := .int, accessFlags := 25, slot := 3, constantValue := 0 }, { name := "BYTES", type := .int, accessFlags := 25, slot := 4, constantValue := 0 }, { name := "serialVersionUID", type := .long, accessFlags := 26, slot := 5, constantValue := 0 }]
  methods := #[k15m0, k15m1]
  instanceTypes := #[.long]
  staticTypes := #[.long, .long, (.object "java/lang/Class"), .int, .int, .long]
  resolved := Array.replicate 524 none
  statics := none }

def pool16 : Array CpInfo := pool [(1, .class_ 2), (0, u "java/lang/Integer"), (16, u "digits"), (0, u "[C"), (64, u "DigitOnes"), (0, u "[B"), (2, u "DigitTens"), (99, .class_ 190), (0, u "java/lang/Integer$IntegerCache"), (3, u "I"), (8, .class_ 204), (0, u "java/lang/Number"), (2, u "value"), (94, u "TYPE"), (0, u "Ljava/lang/Class;"), (0, .class_ 305), (0, u "java/lang/Comparable"), (0, .class_ 307), (0, u "java/lang/constant/Constable"), (0, .class_ 309), (0, u "java/lang/constant/ConstantDesc"), (0, u "MIN_VALUE"), (1, u "MAX_VALUE"), (3, u "SIZE"), (1, u "BYTES"), (1, u "serialVersionUID"), (0, u "J")] 131

/-- java/lang/Integer -/
def k16 : Class := { plain "java/lang/Integer" (some 14) with
  accessFlags := 49
  interfaces := #[3, 5, 6]
  cf := some (fileOf pool16 1 #[.nestMembers #[189]] #[] 49 203 #[304, 306, 308] #[{ accessFlags := 25, nameIndex := 310, descriptorIndex := 194, attributes := #[] }, { accessFlags := 25, nameIndex := 312, descriptorIndex := 194, attributes := #[] }, { accessFlags := 25, nameIndex := 302, descriptorIndex := 303, attributes := #[] }, { accessFlags := 24, nameIndex := 19, descriptorIndex := 20, attributes := #[] }, { accessFlags := 24, nameIndex := 89, descriptorIndex := 86, attributes := #[] }, { accessFlags := 24, nameIndex := 85, descriptorIndex := 86, attributes := #[] }, { accessFlags := 18, nameIndex := 207, descriptorIndex := 194, attributes := #[] }, { accessFlags := 25, nameIndex := 316, descriptorIndex := 194, attributes := #[] }, { accessFlags := 25, nameIndex := 318, descriptorIndex := 194, attributes := #[] }, { accessFlags := 26, nameIndex := 320, descriptorIndex := 321, attributes := #[] }])
  fields := #[{ name := "MIN_VALUE", type := .int, accessFlags := 25, slot := 0, constantValue := 0 }, { name := "MAX_VALUE", type := .int, accessFlags := 25, slot := 1, constantValue := 0 }, { name := "TYPE", type := (.object "java/lang/Class"), accessFlags := 25, slot := 2, constantValue := 0 }, { name := "digits", type := (.array .char), accessFlags := 24, slot := 3, constantValue := 0 }, { name := "DigitTens", type := (.array .byte), accessFlags := 24, slot := 4, constantValue := 0 }, { name := "DigitOnes", type := (.array .byte), accessFlags := 24, slot := 5, constantValue := 0 }, { name := "value", type := .int, accessFlags := 18, slot := 0, constantValue := 0 }, { name := "SIZE", type := .int, accessFlags := 25, slot := 6, constantValue := 0 }, { name := "BYTES", type := .int, accessFlags := 25, slot := 7, constantValue := 0 }, { name := "serialVersionUID", type := .long, accessFlags := 26, slot := 8, constantValue := 0 }]
  methods := #[]
  instanceTypes := #[.int]
  staticTypes := #[.int, .int, (.object "java/lang/Class"), (.array .char), (.array .byte), (.array .byte), .int, .int, .long]
  resolved := Array.replicate 453 none
  statics := some 1 }

def pool17 : Array CpInfo := pool [(2, .class_ 4), (1, u "java/lang/Object"), (0, u "<init>"), (0, u "()V"), (7, .class_ 16), (1, u "java/util/Arrays"), (57, .class_ 76), (1, u "java/util/Arrays$NaturalOrder"), (32, u "()Ljava/lang/Object;"), (3, .class_ 115), (1, u "java/util/Arrays$LegacyMergeSort"), (1, u "Z"), (10, .nameAndType 129 109), (0, u "clone"), (9, u "copyOfRange"), (10, .methodref 151 152), (0, .class_ 153), (0, .nameAndType 154 155), (0, u "java/lang/System"), (0, u "arraycopy"), (0, u "(Ljava/lang/Object;ILjava/lang/Object;II)V"), (146, u "copyOf"), (1, .methodref 305 306), (0, .class_ 307), (0, .nameAndType 308 309), (0, u "java/lang/Math"), (0, u "min"), (0, u "(II)I"), (0, .methodref 311 128), (0, .class_ 312), (0, u "[B"), (26, .methodref 14 340), (0, .nameAndType 341 342), (0, u "copyOfRangeByte"), (0, u "([BII)[B"), (0, .methodref 14 344), (0, .nameAndType 345 346), (0, u "checkLength"), (0, u "(II)V"), (28, .class_ 376), (0, u "java/util/Arrays$ArrayList"), (68, u "$assertionsDisabled"), (269, u "MIN_ARRAY_SORT_GRAN"), (0, u "I"), (2, u "INSERTIONSORT_THRESHOLD"), (149, u "([BI)[B"), (105, .class_ 976), (0, u "java/util/Arrays$ArrayItr")] 52

def k17m0 : Method := { name := "<init>", desc := "()V", sig := { parameters := [], returnType := none }, accessFlags := 2, code := none }
def k17c1 : Code := { maxStack := 6, maxLocals := 3, code := jdk_65_method_121_code, exceptionTable := #[], attributes := #[] }
def k17m1 : Method := { name := "copyOf", desc := "([BI)[B", sig := { parameters := [(.array .byte), .int], returnType := some (.array .byte) }, accessFlags := 9, code := some k17c1 }
def k17c2 : Code := { maxStack := 4, maxLocals := 2, code := jdk_65_method_131_code, exceptionTable := #[], attributes := #[] }
def k17m2 : Method := { name := "checkLength", desc := "(II)V", sig := { parameters := [.int, .int], returnType := none }, accessFlags := 10, code := some k17c2 }
def k17c3 : Code := { maxStack := 3, maxLocals := 3, code := jdk_65_method_132_code, exceptionTable := #[], attributes := #[] }
def k17m3 : Method := { name := "copyOfRange", desc := "([BII)[B", sig := { parameters := [(.array .byte), .int, .int], returnType := some (.array .byte) }, accessFlags := 9, code := some k17c3 }
def k17c4 : Code := { maxStack := 6, maxLocals := 5, code := jdk_65_method_133_code, exceptionTable := #[], attributes := #[] }
def k17m4 : Method := { name := "copyOfRangeByte", desc := "([BII)[B", sig := { parameters := [(.array .byte), .int, .int], returnType := some (.array .byte) }, accessFlags := 10, code := some k17c4 }
/-- java/util/Arrays -/
def k17 : Class := { plain "java/util/Arrays" (some 0) with
  accessFlags := 49
  interfaces := #[]
  cf := some (fileOf pool17 14 #[.nestMembers #[975, 375, 113, 74]] #[{ accessFlags := 2, nameIndex := 5, descriptorIndex := 6, attributes := #[] }, { accessFlags := 9, nameIndex := 302, descriptorIndex := 869, attributes := #[] }, { accessFlags := 10, nameIndex := 345, descriptorIndex := 346, attributes := #[] }, { accessFlags := 9, nameIndex := 139, descriptorIndex := 342, attributes := #[] }, { accessFlags := 10, nameIndex := 341, descriptorIndex := 342, attributes := #[] }] 49 2 #[] #[{ accessFlags := 26, nameIndex := 715, descriptorIndex := 716, attributes := #[] }, { accessFlags := 26, nameIndex := 719, descriptorIndex := 716, attributes := #[] }, { accessFlags := 4120, nameIndex := 445, descriptorIndex := 117, attributes := #[] }])
  fields := #[{ name := "MIN_ARRAY_SORT_GRAN", type := .int, accessFlags := 26, slot := 0, constantValue := 0 }, { name := "INSERTIONSORT_THRESHOLD", type := .int, accessFlags := 26, slot := 1, constantValue := 0 }, { name := "$assertionsDisabled", type := .boolean, accessFlags := 4120, slot := 2, constantValue := 0 }]
  methods := #[k17m0, k17m1, k17m2, k17m3, k17m4]
  instanceTypes := #[]
  staticTypes := #[.int, .int, .boolean]
  resolved := Array.replicate 1029 none
  statics := none }

def pool18 : Array CpInfo := pool [(1, .class_ 2), (0, u "java/lang/Math"), (1, .class_ 6), (1, u "java/lang/Object"), (0, u "<init>"), (0, u "()V"), (89, .class_ 100), (1, u "java/lang/Math$RandomNumberGeneratorHolder"), (71, u "negativeZeroFloatBits"), (0, u "J"), (2, u "negativeZeroDoubleBits"), (21, u "max"), (2, u "min"), (43, u "$assertionsDisabled"), (0, u "Z"), (88, u "(II)I"), (2, u "twoToTheDoubleScaleDown"), (0, u "D"), (4, u "twoToTheDoubleScaleUp"), (9, u "E"), (3, u "PI"), (2, u "TAU"), (2, u "DEGREES_TO_RADIANS"), (0, u "RADIANS_TO_DEGREES")] 94

def k18m0 : Method := { name := "<init>", desc := "()V", sig := { parameters := [], returnType := none }, accessFlags := 2, code := none }
def k18c1 : Code := { maxStack := 2, maxLocals := 2, code := jdk_29_method_65_code, exceptionTable := #[], attributes := #[] }
def k18m1 : Method := { name := "max", desc := "(II)I", sig := { parameters := [.int, .int], returnType := some .int }, accessFlags := 9, code := some k18c1 }
def k18c2 : Code := { maxStack := 2, maxLocals := 2, code := jdk_29_method_69_code, exceptionTable := #[], attributes := #[] }
def k18m2 : Method := { name := "min", desc := "(II)I", sig := { parameters := [.int, .int], returnType := some .int }, accessFlags := 9, code := some k18c2 }
/-- java/lang/Math -/
def k18 : Class := { plain "java/lang/Math" (some 0) with
  accessFlags := 49
  interfaces := #[]
  cf := some (fileOf pool18 1 #[.nestMembers #[98]] #[{ accessFlags := 2, nameIndex := 7, descriptorIndex := 8, attributes := #[] }, { accessFlags := 9, nameIndex := 198, descriptorIndex := 335, attributes := #[] }, { accessFlags := 9, nameIndex := 201, descriptorIndex := 335, attributes := #[] }] 49 4 #[] #[{ accessFlags := 25, nameIndex := 354, descriptorIndex := 339, attributes := #[] }, { accessFlags := 25, nameIndex := 358, descriptorIndex := 339, attributes := #[] }, { accessFlags := 25, nameIndex := 361, descriptorIndex := 339, attributes := #[] }, { accessFlags := 26, nameIndex := 364, descriptorIndex := 339, attributes := #[] }, { accessFlags := 26, nameIndex := 365, descriptorIndex := 339, attributes := #[] }, { accessFlags := 26, nameIndex := 172, descriptorIndex := 173, attributes := #[] }, { accessFlags := 26, nameIndex := 176, descriptorIndex := 173, attributes := #[] }, { accessFlags := 8, nameIndex := 344, descriptorIndex := 339, attributes := #[] }, { accessFlags := 8, nameIndex := 338, descriptorIndex := 339, attributes := #[] }, { accessFlags := 4120, nameIndex := 245, descriptorIndex := 246, attributes := #[] }])
  fields := #[{ name := "E", type := .double, accessFlags := 25, slot := 0, constantValue := 0 }, { name := "PI", type := .double, accessFlags := 25, slot := 1, constantValue := 0 }, { name := "TAU", type := .double, accessFlags := 25, slot := 2, constantValue := 0 }, { name := "DEGREES_TO_RADIANS", type := .double, accessFlags := 26, slot := 3, constantValue := 0 }, { name := "RADIANS_TO_DEGREES", type := .double, accessFlags := 26, slot := 4, constantValue := 0 }, { name := "negativeZeroFloatBits", type := .long, accessFlags := 26, slot := 5, constantValue := 0 }, { name := "negativeZeroDoubleBits", type := .long, accessFlags := 26, slot := 6, constantValue := 0 }, { name := "twoToTheDoubleScaleUp", type := .double, accessFlags := 8, slot := 7, constantValue := 0 }, { name := "twoToTheDoubleScaleDown", type := .double, accessFlags := 8, slot := 8, constantValue := 0 }, { name := "$assertionsDisabled", type := .boolean, accessFlags := 4120, slot := 9, constantValue := 0 }]
  methods := #[k18m0, k18m1, k18m2]
  instanceTypes := #[]
  staticTypes := #[.double, .double, .double, .double, .double, .long, .long, .double, .double, .boolean]
  resolved := Array.replicate 460 none
  statics := none }

def pool19 : Array CpInfo := pool [(1, .class_ 2), (0, u "java/lang/String"), (1, .class_ 6), (1, u "java/lang/Object"), (0, u "<init>"), (0, u "()V"), (0, .methodref 1 10), (0, .nameAndType 11 12), (0, u "checkIndex"), (0, u "(II)V"), (1, .class_ 16), (1, u "java/lang/StringLatin1"), (36, u "([BI)C"), (67, u "$assertionsDisabled"), (0, u "Z"), (98, .class_ 223), (1, u "java/lang/StringLatin1$LinesSpliterator"), (28, u "charAt"), (137, .class_ 391), (0, u "java/lang/StringLatin1$CharsSpliterator")] 3

def k19m0 : Method := { name := "<init>", desc := "()V", sig := { parameters := [], returnType := none }, accessFlags := 0, code := none }
def k19c1 : Code := { maxStack := 2, maxLocals := 2, code := jdk_43_method_2_code, exceptionTable := #[], attributes := #[] }
def k19m1 : Method := { name := "charAt", desc := "([BI)C", sig := { parameters := [(.array .byte), .int], returnType := some .char }, accessFlags := 9, code := some k19c1 }
/-- java/lang/StringLatin1 -/
def k19 : Class := { plain "java/lang/StringLatin1" (some 0) with
  accessFlags := 48
  interfaces := #[]
  cf := some (fileOf pool19 14 #[.nestMembers #[390, 221]] #[{ accessFlags := 0, nameIndex := 7, descriptorIndex := 8, attributes := #[] }, { accessFlags := 9, nameIndex := 252, descriptorIndex := 53, attributes := #[] }] 48 4 #[] #[{ accessFlags := 4120, nameIndex := 121, descriptorIndex := 122, attributes := #[] }])
  fields := #[{ name := "$assertionsDisabled", type := .boolean, accessFlags := 4120, slot := 0, constantValue := 0 }]
  methods := #[k19m0, k19m1]
  instanceTypes := #[]
  staticTypes := #[.boolean]
  resolved := Array.replicate 395 none
  statics := none }

def pool20 : Array CpInfo := pool [(2, .class_ 4), (1, u "java/lang/Object"), (0, u "<init>"), (0, u "()V"), (17, .class_ 26), (1, u "jdk/internal/util/Preconditions"), (6, u "checkIndex"), (21, .class_ 56), (0, u "jdk/internal/util/Preconditions$4"), (57, .class_ 115), (0, u "jdk/internal/util/Preconditions$1"), (7, u "SIOOBE_FORMATTER"), (0, u "Ljava/util/function/BiFunction;"), (0, .class_ 126), (0, u "jdk/internal/util/Preconditions$2"), (3, u "AIOOBE_FORMATTER"), (0, .class_ 132), (0, u "jdk/internal/util/Preconditions$3"), (3, u "IOOBE_FORMATTER"), (41, u "(IILjava/util/function/BiFunction;)I")] 15

def k20m0 : Method := { name := "<init>", desc := "()V", sig := { parameters := [], returnType := none }, accessFlags := 1, code := none }
def k20c1 : Code := { maxStack := 3, maxLocals := 3, code := jdk_41_method_11_code, exceptionTable := #[], attributes := #[] }
def k20m1 : Method := { name := "checkIndex", desc := "(IILjava/util/function/BiFunction;)I", sig := { parameters := [.int, .int, (.object "java/util/function/BiFunction")], returnType := some .int }, accessFlags := 9, code := some k20c1 }
/-- jdk/internal/util/Preconditions -/
def k20 : Class := { plain "jdk/internal/util/Preconditions" (some 0) with
  accessFlags := 33
  interfaces := #[]
  cf := some (fileOf pool20 24 #[.nestMembers #[55, 131, 125, 114]] #[{ accessFlags := 1, nameIndex := 5, descriptorIndex := 6, attributes := #[] }, { accessFlags := 9, nameIndex := 33, descriptorIndex := 178, attributes := #[] }] 33 2 #[] #[{ accessFlags := 25, nameIndex := 123, descriptorIndex := 124, attributes := #[] }, { accessFlags := 25, nameIndex := 130, descriptorIndex := 124, attributes := #[] }, { accessFlags := 25, nameIndex := 136, descriptorIndex := 124, attributes := #[] }])
  fields := #[{ name := "SIOOBE_FORMATTER", type := (.object "java/util/function/BiFunction"), accessFlags := 25, slot := 0, constantValue := 0 }, { name := "AIOOBE_FORMATTER", type := (.object "java/util/function/BiFunction"), accessFlags := 25, slot := 1, constantValue := 0 }, { name := "IOOBE_FORMATTER", type := (.object "java/util/function/BiFunction"), accessFlags := 25, slot := 2, constantValue := 0 }]
  methods := #[k20m0, k20m1]
  instanceTypes := #[]
  staticTypes := #[(.object "java/util/function/BiFunction"), (.object "java/util/function/BiFunction"), (.object "java/util/function/BiFunction")]
  resolved := Array.replicate 194 none
  statics := some 2 }

def pool21 : Array CpInfo := pool [(9, u "<init>"), (6, .class_ 18), (1, u "java/lang/Object"), (0, u "()V"), (1, .class_ 23), (1, u "jdk/internal/util/ArraysSupport"), (0, u "LOG2_ARRAY_LONG_INDEX_SCALE"), (0, u "I"), (2, u "U"), (0, u "Ljdk/internal/misc/Unsafe;"), (8, u "BIG_ENDIAN"), (0, u "Z"), (8, u "LOG2_BYTE_BIT_SIZE"), (4, u "LOG2_ARRAY_INT_INDEX_SCALE"), (54, u "JLA"), (0, u "Ljdk/internal/access/JavaLangAccess;"), (11, u "LOG2_ARRAY_BOOLEAN_INDEX_SCALE"), (9, u "LOG2_ARRAY_BYTE_INDEX_SCALE"), (5, u "LOG2_ARRAY_CHAR_INDEX_SCALE"), (5, u "LOG2_ARRAY_SHORT_INDEX_SCALE"), (18, u "LOG2_ARRAY_FLOAT_INDEX_SCALE"), (24, u "LOG2_ARRAY_DOUBLE_INDEX_SCALE"), (6, .methodref 195 196), (0, .class_ 197), (0, .nameAndType 198 199), (0, u "java/lang/Math"), (0, u "max"), (0, u "(II)I"), (0, .integer 2147483639), (76, u "T_BOOLEAN"), (2, u "T_CHAR"), (1, u "T_FLOAT"), (1, u "T_DOUBLE"), (1, u "T_BYTE"), (1, u "T_SHORT"), (1, u "T_INT"), (1, u "T_LONG"), (1, u "SOFT_MAX_ARRAY_LENGTH"), (56, u "newLength"), (0, u "(III)I")] 25

def k21m0 : Method := { name := "<init>", desc := "()V", sig := { parameters := [], returnType := none }, accessFlags := 2, code := none }
def k21c1 : Code := { maxStack := 3, maxLocals := 4, code := jdk_48_method_27_code, exceptionTable := #[], attributes := #[] }
def k21m1 : Method := { name := "newLength", desc := "(III)I", sig := { parameters := [.int, .int, .int], returnType := some .int }, accessFlags := 9, code := some k21c1 }
/-- jdk/internal/util/ArraysSupport -/
def k21 : Class := { plain "jdk/internal/util/ArraysSupport" (some 0) with
  accessFlags := 33
  interfaces := #[]
  cf := some (fileOf pool21 21 #[] #[{ accessFlags := 2, nameIndex := 9, descriptorIndex := 19, attributes := #[] }, { accessFlags := 9, nameIndex := 351, descriptorIndex := 352, attributes := #[] }] 33 16 #[] #[{ accessFlags := 24, nameIndex := 28, descriptorIndex := 29, attributes := #[] }, { accessFlags := 26, nameIndex := 38, descriptorIndex := 39, attributes := #[] }, { accessFlags := 25, nameIndex := 121, descriptorIndex := 25, attributes := #[] }, { accessFlags := 25, nameIndex := 131, descriptorIndex := 25, attributes := #[] }, { accessFlags := 25, nameIndex := 137, descriptorIndex := 25, attributes := #[] }, { accessFlags := 25, nameIndex := 143, descriptorIndex := 25, attributes := #[] }, { accessFlags := 25, nameIndex := 53, descriptorIndex := 25, attributes := #[] }, { accessFlags := 25, nameIndex := 24, descriptorIndex := 25, attributes := #[] }, { accessFlags := 25, nameIndex := 162, descriptorIndex := 25, attributes := #[] }, { accessFlags := 25, nameIndex := 187, descriptorIndex := 25, attributes := #[] }, { accessFlags := 26, nameIndex := 48, descriptorIndex := 25, attributes := #[] }, { accessFlags := 25, nameIndex := 277, descriptorIndex := 25, attributes := #[] }, { accessFlags := 25, nameIndex := 280, descriptorIndex := 25, attributes := #[] }, { accessFlags := 25, nameIndex := 282, descriptorIndex := 25, attributes := #[] }, { accessFlags := 25, nameIndex := 284, descriptorIndex := 25, attributes := #[] }, { accessFlags := 25, nameIndex := 286, descriptorIndex := 25, attributes := #[] }, { accessFlags := 25, nameIndex := 288, descriptorIndex := 25, attributes := #[] }, { accessFlags := 25, nameIndex := 290, descriptorIndex := 25, attributes := #[] }, { accessFlags := 25, nameIndex := 292, descriptorIndex := 25, attributes := #[] }, { accessFlags := 26, nameIndex := 108, descriptorIndex := 109, attributes := #[] }, { accessFlags := 25, nameIndex := 294, descriptorIndex := 25, attributes := #[] }])
  fields := #[{ name := "U", type := (.object "jdk/internal/misc/Unsafe"), accessFlags := 24, slot := 0, constantValue := 0 }, { name := "BIG_ENDIAN", type := .boolean, accessFlags := 26, slot := 1, constantValue := 0 }, { name := "LOG2_ARRAY_BOOLEAN_INDEX_SCALE", type := .int, accessFlags := 25, slot := 2, constantValue := 0 }, { name := "LOG2_ARRAY_BYTE_INDEX_SCALE", type := .int, accessFlags := 25, slot := 3, constantValue := 0 }, { name := "LOG2_ARRAY_CHAR_INDEX_SCALE", type := .int, accessFlags := 25, slot := 4, constantValue := 0 }, { name := "LOG2_ARRAY_SHORT_INDEX_SCALE", type := .int, accessFlags := 25, slot := 5, constantValue := 0 }, { name := "LOG2_ARRAY_INT_INDEX_SCALE", type := .int, accessFlags := 25, slot := 6, constantValue := 0 }, { name := "LOG2_ARRAY_LONG_INDEX_SCALE", type := .int, accessFlags := 25, slot := 7, constantValue := 0 }, { name := "LOG2_ARRAY_FLOAT_INDEX_SCALE", type := .int, accessFlags := 25, slot := 8, constantValue := 0 }, { name := "LOG2_ARRAY_DOUBLE_INDEX_SCALE", type := .int, accessFlags := 25, slot := 9, constantValue := 0 }, { name := "LOG2_BYTE_BIT_SIZE", type := .int, accessFlags := 26, slot := 10, constantValue := 0 }, { name := "T_BOOLEAN", type := .int, accessFlags := 25, slot := 11, constantValue := 0 }, { name := "T_CHAR", type := .int, accessFlags := 25, slot := 12, constantValue := 0 }, { name := "T_FLOAT", type := .int, accessFlags := 25, slot := 13, constantValue := 0 }, { name := "T_DOUBLE", type := .int, accessFlags := 25, slot := 14, constantValue := 0 }, { name := "T_BYTE", type := .int, accessFlags := 25, slot := 15, constantValue := 0 }, { name := "T_SHORT", type := .int, accessFlags := 25, slot := 16, constantValue := 0 }, { name := "T_INT", type := .int, accessFlags := 25, slot := 17, constantValue := 0 }, { name := "T_LONG", type := .int, accessFlags := 25, slot := 18, constantValue := 0 }, { name := "JLA", type := (.object "jdk/internal/access/JavaLangAccess"), accessFlags := 26, slot := 19, constantValue := 0 }, { name := "SOFT_MAX_ARRAY_LENGTH", type := .int, accessFlags := 25, slot := 20, constantValue := 0 }]
  methods := #[k21m0, k21m1]
  instanceTypes := #[]
  staticTypes := #[(.object "jdk/internal/misc/Unsafe"), .boolean, .int, .int, .int, .int, .int, .int, .int, .int, .int, .int, .int, .int, .int, .int, .int, .int, .int, (.object "jdk/internal/access/JavaLangAccess"), .int]
  resolved := Array.replicate 378 none
  statics := none }

def pool22 : Array CpInfo := pool [(1, .class_ 2), (0, u "java/lang/Cloneable"), (0, .class_ 4), (0, u "java/lang/Object")] 2

/-- java/lang/Cloneable -/
def k22 : Class := { plain "java/lang/Cloneable" (some 0) with
  accessFlags := 1537
  interfaces := #[]
  cf := some (fileOf pool22 1 #[] #[] 1537 3 #[] #[])
  fields := #[]
  methods := #[]
  instanceTypes := #[]
  staticTypes := #[]
  resolved := Array.replicate 7 none
  statics := none }

/-- the primitive byte -/
def k23 : Class := { plain "byte" none with kind := .primitive 'B', accessFlags := 0x411 }
/-- [B -/
def k24 : Class := { plain "[B" (some 0) with kind := .array 23 .byte, interfaces := #[22, 2], accessFlags := 1041 }

/-- the primitive char -/
def k25 : Class := { plain "char" none with kind := .primitive 'C', accessFlags := 0x411 }
/-- [C -/
def k26 : Class := { plain "[C" (some 0) with kind := .array 25 .char, interfaces := #[22, 2], accessFlags := 1041 }

/-- the primitive int -/
def k27 : Class := { plain "int" none with kind := .primitive 'I', accessFlags := 0x411 }
/-- [I -/
def k28 : Class := { plain "[I" (some 0) with kind := .array 27 .int, interfaces := #[22, 2], accessFlags := 1041 }

def heap : Heap := #[{ cls := 7, slots := #[.long 0, .int 1, .null, .int 0, .null, .int 0, .int 0], vm := .statics 7 },
  { cls := 16, slots := #[.int 0, .int 0, .null, .null, .ref 4, .ref 3, .int 0, .int 0, .long 0], vm := .statics 16 },
  { cls := 20, slots := #[.null, .null, .null], vm := .statics 20 },
  { cls := 24, slots := #[.int 48, .int 49, .int 50, .int 51, .int 52, .int 53, .int 54, .int 55, .int 56, .int 57, .int 48, .int 49, .int 50, .int 51, .int 52, .int 53, .int 54, .int 55, .int 56, .int 57, .int 48, .int 49, .int 50, .int 51, .int 52, .int 53, .int 54, .int 55, .int 56, .int 57, .int 48, .int 49, .int 50, .int 51, .int 52, .int 53, .int 54, .int 55, .int 56, .int 57, .int 48, .int 49, .int 50, .int 51, .int 52, .int 53, .int 54, .int 55, .int 56, .int 57, .int 48, .int 49, .int 50, .int 51, .int 52, .int 53, .int 54, .int 55, .int 56, .int 57, .int 48, .int 49, .int 50, .int 51, .int 52, .int 53, .int 54, .int 55, .int 56, .int 57, .int 48, .int 49, .int 50, .int 51, .int 52, .int 53, .int 54, .int 55, .int 56, .int 57, .int 48, .int 49, .int 50, .int 51, .int 52, .int 53, .int 54, .int 55, .int 56, .int 57, .int 48, .int 49, .int 50, .int 51, .int 52, .int 53, .int 54, .int 55, .int 56, .int 57], vm := .none },
  { cls := 24, slots := #[.int 48, .int 48, .int 48, .int 48, .int 48, .int 48, .int 48, .int 48, .int 48, .int 48, .int 49, .int 49, .int 49, .int 49, .int 49, .int 49, .int 49, .int 49, .int 49, .int 49, .int 50, .int 50, .int 50, .int 50, .int 50, .int 50, .int 50, .int 50, .int 50, .int 50, .int 51, .int 51, .int 51, .int 51, .int 51, .int 51, .int 51, .int 51, .int 51, .int 51, .int 52, .int 52, .int 52, .int 52, .int 52, .int 52, .int 52, .int 52, .int 52, .int 52, .int 53, .int 53, .int 53, .int 53, .int 53, .int 53, .int 53, .int 53, .int 53, .int 53, .int 54, .int 54, .int 54, .int 54, .int 54, .int 54, .int 54, .int 54, .int 54, .int 54, .int 55, .int 55, .int 55, .int 55, .int 55, .int 55, .int 55, .int 55, .int 55, .int 55, .int 56, .int 56, .int 56, .int 56, .int 56, .int 56, .int 56, .int 56, .int 56, .int 56, .int 57, .int 57, .int 57, .int 57, .int 57, .int 57, .int 57, .int 57, .int 57, .int 57], vm := .none }]
def classes : Array Class := #[k0, k1, k2, k3, k4, k5, k6, k7, k8, k9, k10, k11, k12, k13, k14, k15, k16, k17, k18, k19, k20, k21, k22, k23, k24, k25, k26, k27, k28]
def interned : List (Array UInt16 × Addr) := []
def slotsUsed : Nat := 219
def theMethod : MethodId := ⟨1, 1⟩
def args0 : Array Value := #[.long 5, .int 5, .int 5, .int 5, .int 5]
def aboutOver (below : List Frame) : State where
  vm := { classes := classes, interned := interned.toArray }
  heap := heap
  slotsUsed := slotsUsed
  threads := #[{ frames := .invoking theMethod args0 :: below }]
def below0 : List Frame := [.native { method := ⟨0, 0⟩, args := #[] }]
def about1 : State := aboutOver below0
def p0 : Program := .bare "" "" ""
def e0 : Env := launch0.env 0 0 0
theorem w_frames : about1.frames = Frame.invoking theMethod args0 :: below0 := rfl
set_option maxRecDepth 65536 in
theorem w_args : argsFit about1.vm theMethod args0 = true := by decide +kernel
set_option maxRecDepth 65536 in
theorem w_heap : heapFits about1 = true := by decide +kernel
set_option maxRecDepth 65536 in
theorem w_runnable : about1.curStatus? = some .runnable := by decide +kernel
set_option maxRecDepth 65536 in
theorem w_alone : about1.alone = true := by decide +kernel
set_option maxRecDepth 65536 in
theorem w_named : about1.methodNamed? x = some theMethod := by decide +kernel
set_option maxRecDepth 65536 in
theorem w_hears : about1.hears theMethod below0 = true := by decide +kernel
set_option maxRecDepth 65536 in
theorem w_ripe : about1.ripe theMethod args0 below0 = true := by decide +kernel
theorem w_running : about1.status = .running := rfl
set_option maxRecDepth 65536 in
theorem w_room : about1.hasRoom e0.platform room_1 = true :=
  launch0.hasRoom_least _ room_1 (by decide +kernel) (by decide +kernel) (by decide +kernel) (by decide +kernel) (by decide +kernel) (by decide +kernel)
theorem allAtoms_all (ts : List Jvm.Cond) (a : Array Jvm.Value) (st : Jvm.State) : (allAtoms ts).before a st = ts.all (fun c => c.before a st) := by
  induction ts with
  | nil => rfl
  | cons c t ih =>
    show (Jvm.Cond.and c (allAtoms t)).before a st = _
    rw [Jvm.Cond.before_and, ih, List.all_cons]
def words1 : List Jvm.Cond := Jvm.Cond.code x code maxLocals ret :: tables_1
/-- a 'code' word, met by the world's own term for the bytes: nothing is compared byte by byte -/
theorem code_word {y : MethodName} {bytes : ByteArray} {mx : Nat} {rt : Option FieldType} {a : Array Value} {s : State} {m : MethodId} {meth : Method} {c : Code} (h1 : s.methodNamed? y = some m) (h2 : s.vm.method? m = some meth) (h3 : meth.code = some c) (h4 : c.code = bytes)
    (h5 : (c.maxLocals == mx && c.exceptionTable.isEmpty && decide (c.maxStack ≤ mostOperands) && decide (meth.sig.returnType = rt) && !meth.locks && decide (parseMethodDescriptor y.desc = some meth.sig)) = true) : (Jvm.Cond.code y bytes mx rt).before a s = true := by
  simp only [Bool.and_eq_true, beq_iff_eq, Bool.not_eq_true', decide_eq_true_eq] at h5
  obtain ⟨⟨⟨⟨⟨g1, g2⟩, g3⟩, g4⟩, g5⟩, g6⟩ := h5
  simp [Cond.before, Cond.holds, Cond.value, h1, h2, h3, h4, g1, g2, g3, g4, g5, g6]
def isCode : Jvm.Cond → Bool
  | .code _ _ _ _ => true
  | _ => false
theorem all_split {L : List Jvm.Cond} {P : Jvm.Cond → Bool} (h1 : L.all (fun c => isCode c || P c) = true) (h2 : ∀ c ∈ L.filter isCode, P c = true) : L.all P = true := by
  refine List.all_eq_true.mpr fun c hc => ?_
  have h := List.all_eq_true.mp h1 c hc
  rcases Bool.eq_false_or_eq_true (isCode c) with hi | hi
  · exact h2 c (List.mem_filter.mpr ⟨hc, hi⟩)
  · simpa [hi] using h
set_option maxRecDepth 65536 in
theorem w_c0 : (Jvm.Cond.code x code maxLocals ret).before args0 about1 = true := code_word (m := ⟨1, 1⟩) (meth := k1m1) (c := k1c1) (by decide +kernel) rfl rfl rfl (by decide +kernel)
set_option maxRecDepth 65536 in
theorem w_c1 : (Jvm.Cond.code ({ cls := "java/lang/String", name := "<init>", desc := "([C)V" } : Jvm.MethodName) jdk_42_method_3_code (2 : Nat) (Option.none : Option Jvm.ClassFile.FieldType)).before args0 about1 = true := code_word (m := ⟨7, 1⟩) (meth := k7m1) (c := k7c1) (by decide +kernel) rfl rfl rfl (by decide +kernel)
set_option maxRecDepth 65536 in
theorem w_c2 : (Jvm.Cond.code ({ cls := "java/lang/String", name := "<init>", desc := "([CIILjava/lang/Void;)V" } : Jvm.MethodName) jdk_42_method_149_code (6 : Nat) (Option.none : Option Jvm.ClassFile.FieldType)).before args0 about1 = true := code_word (m := ⟨7, 6⟩) (meth := k7m6) (c := k7c6) (by decide +kernel) rfl rfl rfl (by decide +kernel)
set_option maxRecDepth 65536 in
theorem w_c3 : (Jvm.Cond.code ({ cls := "java/lang/Object", name := "<init>", desc := "()V" } : Jvm.MethodName) object_method_1_code (1 : Nat) (Option.none : Option Jvm.ClassFile.FieldType)).before args0 about1 = true := code_word (m := ⟨0, 0⟩) (meth := k0m0) (c := k0c0) (by decide +kernel) rfl rfl rfl (by decide +kernel)
set_option maxRecDepth 65536 in
theorem w_c4 : (Jvm.Cond.code ({ cls := "java/lang/StringUTF16", name := "compress", desc := "([CII)[B" } : Jvm.MethodName) jdk_52_method_16_code (6 : Nat) (Option.some (Jvm.ClassFile.FieldType.array Jvm.ClassFile.FieldType.byte))).before args0 about1 = true := code_word (m := ⟨8, 2⟩) (meth := k8m2) (c := k8c2) (by decide +kernel) rfl rfl rfl (by decide +kernel)
set_option maxRecDepth 65536 in
theorem w_c5 : (Jvm.Cond.code ({ cls := "java/lang/StringUTF16", name := "compress", desc := "([CI[BII)I" } : Jvm.MethodName) jdk_52_method_21_code (7 : Nat) (Option.some Jvm.ClassFile.FieldType.int)).before args0 about1 = true := code_word (m := ⟨8, 3⟩) (meth := k8m3) (c := k8c3) (by decide +kernel) rfl rfl rfl (by decide +kernel)
set_option maxRecDepth 65536 in
theorem w_c6 : (Jvm.Cond.code ({ cls := "java/lang/StringUTF16", name := "coderFromArrayLen", desc := "([BI)B" } : Jvm.MethodName) jdk_52_method_15_code (2 : Nat) (Option.some Jvm.ClassFile.FieldType.byte)).before args0 about1 = true := code_word (m := ⟨8, 1⟩) (meth := k8m1) (c := k8c1) (by decide +kernel) rfl rfl rfl (by decide +kernel)
set_option maxRecDepth 65536 in
theorem w_c7 : (Jvm.Cond.code ({ cls := "com/example/await_in_turn/awaitinturn/QueueEntry", name := "<init>", desc := "(Ljava/lang/String;J)V" } : Jvm.MethodName) prog_10_method_1_code (4 : Nat) (Option.none : Option Jvm.ClassFile.FieldType)).before args0 about1 = true := code_word (m := ⟨9, 0⟩) (meth := k9m0) (c := k9c0) (by decide +kernel) rfl rfl rfl (by decide +kernel)
set_option maxRecDepth 65536 in
theorem w_c8 : (Jvm.Cond.code ({ cls := "com/example/await_in_turn/awaitinturn/QueueEntry", name := "toString", desc := "()Ljava/lang/String;" } : Jvm.MethodName) prog_10_method_4_code (1 : Nat) (Option.some (Jvm.ClassFile.FieldType.object "java/lang/String"))).before args0 about1 = true := code_word (m := ⟨9, 1⟩) (meth := k9m1) (c := k9c1) (by decide +kernel) rfl rfl rfl (by decide +kernel)
set_option maxRecDepth 65536 in
theorem w_c9 : (Jvm.Cond.code ({ cls := "java/lang/StringBuilder", name := "<init>", desc := "()V" } : Jvm.MethodName) jdk_67_method_1_code (1 : Nat) (Option.none : Option Jvm.ClassFile.FieldType)).before args0 about1 = true := code_word (m := ⟨12, 0⟩) (meth := k12m0) (c := k12c0) (by decide +kernel) rfl rfl rfl (by decide +kernel)
set_option maxRecDepth 65536 in
theorem w_c10 : (Jvm.Cond.code ({ cls := "java/lang/AbstractStringBuilder", name := "<init>", desc := "(I)V" } : Jvm.MethodName) jdk_68_method_2_code (2 : Nat) (Option.none : Option Jvm.ClassFile.FieldType)).before args0 about1 = true := code_word (m := ⟨11, 1⟩) (meth := k11m1) (c := k11c1) (by decide +kernel) rfl rfl rfl (by decide +kernel)
set_option maxRecDepth 65536 in
theorem w_c11 : (Jvm.Cond.code ({ cls := "java/lang/StringBuilder", name := "append", desc := "(Ljava/lang/String;)Ljava/lang/StringBuilder;" } : Jvm.MethodName) jdk_67_method_7_code (2 : Nat) (Option.some (Jvm.ClassFile.FieldType.object "java/lang/StringBuilder"))).before args0 about1 = true := code_word (m := ⟨12, 1⟩) (meth := k12m1) (c := k12c1) (by decide +kernel) rfl rfl rfl (by decide +kernel)
set_option maxRecDepth 65536 in
theorem w_c12 : (Jvm.Cond.code ({ cls := "java/lang/AbstractStringBuilder", name := "append", desc := "(Ljava/lang/String;)Ljava/lang/AbstractStringBuilder;" } : Jvm.MethodName) jdk_68_method_22_code (3 : Nat) (Option.some (Jvm.ClassFile.FieldType.object "java/lang/AbstractStringBuilder"))).before args0 about1 = true := code_word (m := ⟨11, 5⟩) (meth := k11m5) (c := k11c5) (by decide +kernel) rfl rfl rfl (by decide +kernel)
set_option maxRecDepth 65536 in
theorem w_c13 : (Jvm.Cond.code ({ cls := "java/lang/String", name := "length", desc := "()I" } : Jvm.MethodName) jdk_42_method_54_code (1 : Nat) (Option.some Jvm.ClassFile.FieldType.int)).before args0 about1 = true := code_word (m := ⟨7, 3⟩) (meth := k7m3) (c := k7c3) (by decide +kernel) rfl rfl rfl (by decide +kernel)
set_option maxRecDepth 65536 in
theorem w_c14 : (Jvm.Cond.code ({ cls := "java/lang/String", name := "coder", desc := "()B" } : Jvm.MethodName) jdk_42_method_152_code (1 : Nat) (Option.some Jvm.ClassFile.FieldType.byte)).before args0 about1 = true := code_word (m := ⟨7, 8⟩) (meth := k7m8) (c := k7c8) (by decide +kernel) rfl rfl rfl (by decide +kernel)
set_option maxRecDepth 65536 in
theorem w_c15 : (Jvm.Cond.code ({ cls := "java/lang/AbstractStringBuilder", name := "ensureCapacityInternal", desc := "(I)V" } : Jvm.MethodName) jdk_68_method_9_code (3 : Nat) (Option.none : Option Jvm.ClassFile.FieldType)).before args0 about1 = true := code_word (m := ⟨11, 3⟩) (meth := k11m3) (c := k11c3) (by decide +kernel) rfl rfl rfl (by decide +kernel)
set_option maxRecDepth 65536 in
theorem w_c16 : (Jvm.Cond.code ({ cls := "java/lang/AbstractStringBuilder", name := "putStringAt", desc := "(ILjava/lang/String;)V" } : Jvm.MethodName) jdk_68_method_73_code (3 : Nat) (Option.none : Option Jvm.ClassFile.FieldType)).before args0 about1 = true := code_word (m := ⟨11, 10⟩) (meth := k11m10) (c := k11c10) (by decide +kernel) rfl rfl rfl (by decide +kernel)
set_option maxRecDepth 65536 in
theorem w_c17 : (Jvm.Cond.code ({ cls := "java/lang/AbstractStringBuilder", name := "inflateIfNeededFor", desc := "(Ljava/lang/String;)V" } : Jvm.MethodName) jdk_68_method_71_code (2 : Nat) (Option.none : Option Jvm.ClassFile.FieldType)).before args0 about1 = true := code_word (m := ⟨11, 9⟩) (meth := k11m9) (c := k11c9) (by decide +kernel) rfl rfl rfl (by decide +kernel)
set_option maxRecDepth 65536 in
theorem w_c18 : (Jvm.Cond.code ({ cls := "java/lang/String", name := "getBytes", desc := "([BIB)V" } : Jvm.MethodName) jdk_42_method_147_code (4 : Nat) (Option.none : Option Jvm.ClassFile.FieldType)).before args0 about1 = true := code_word (m := ⟨7, 5⟩) (meth := k7m5) (c := k7c5) (by decide +kernel) rfl rfl rfl (by decide +kernel)
set_option maxRecDepth 65536 in
theorem w_c19 : (Jvm.Cond.code ({ cls := "java/lang/StringBuilder", name := "append", desc := "(J)Ljava/lang/StringBuilder;" } : Jvm.MethodName) jdk_67_method_16_code (3 : Nat) (Option.some (Jvm.ClassFile.FieldType.object "java/lang/StringBuilder"))).before args0 about1 = true := code_word (m := ⟨12, 2⟩) (meth := k12m2) (c := k12c2) (by decide +kernel) rfl rfl rfl (by decide +kernel)
set_option maxRecDepth 65536 in
theorem w_c20 : (Jvm.Cond.code ({ cls := "java/lang/AbstractStringBuilder", name := "append", desc := "(J)Ljava/lang/AbstractStringBuilder;" } : Jvm.MethodName) jdk_68_method_33_code (5 : Nat) (Option.some (Jvm.ClassFile.FieldType.object "java/lang/AbstractStringBuilder"))).before args0 about1 = true := code_word (m := ⟨11, 6⟩) (meth := k11m6) (c := k11c6) (by decide +kernel) rfl rfl rfl (by decide +kernel)
set_option maxRecDepth 65536 in
theorem w_c21 : (Jvm.Cond.code ({ cls := "java/lang/Long", name := "stringSize", desc := "(J)I" } : Jvm.MethodName) jdk_35_method_15_code (6 : Nat) (Option.some Jvm.ClassFile.FieldType.int)).before args0 about1 = true := code_word (m := ⟨15, 1⟩) (meth := k15m1) (c := k15c1) (by decide +kernel) rfl rfl rfl (by decide +kernel)
set_option maxRecDepth 65536 in
theorem w_c22 : (Jvm.Cond.code ({ cls := "java/lang/AbstractStringBuilder", name := "isLatin1", desc := "()Z" } : Jvm.MethodName) jdk_68_method_68_code (1 : Nat) (Option.some Jvm.ClassFile.FieldType.boolean)).before args0 about1 = true := code_word (m := ⟨11, 8⟩) (meth := k11m8) (c := k11c8) (by decide +kernel) rfl rfl rfl (by decide +kernel)
set_option maxRecDepth 65536 in
theorem w_c23 : (Jvm.Cond.code ({ cls := "java/lang/Long", name := "getChars", desc := "(JI[B)I" } : Jvm.MethodName) jdk_35_method_14_code (11 : Nat) (Option.some Jvm.ClassFile.FieldType.int)).before args0 about1 = true := code_word (m := ⟨15, 0⟩) (meth := k15m0) (c := k15c0) (by decide +kernel) rfl rfl rfl (by decide +kernel)
set_option maxRecDepth 65536 in
theorem w_c24 : (Jvm.Cond.code ({ cls := "java/lang/StringBuilder", name := "toString", desc := "()Ljava/lang/String;" } : Jvm.MethodName) jdk_67_method_42_code (1 : Nat) (Option.some (Jvm.ClassFile.FieldType.object "java/lang/String"))).before args0 about1 = true := code_word (m := ⟨12, 3⟩) (meth := k12m3) (c := k12c3) (by decide +kernel) rfl rfl rfl (by decide +kernel)
set_option maxRecDepth 65536 in
theorem w_c25 : (Jvm.Cond.code ({ cls := "java/lang/String", name := "<init>", desc := "(Ljava/lang/StringBuilder;)V" } : Jvm.MethodName) jdk_42_method_53_code (2 : Nat) (Option.none : Option Jvm.ClassFile.FieldType)).before args0 about1 = true := code_word (m := ⟨7, 2⟩) (meth := k7m2) (c := k7c2) (by decide +kernel) rfl rfl rfl (by decide +kernel)
set_option maxRecDepth 65536 in
theorem w_c26 : (Jvm.Cond.code ({ cls := "java/lang/String", name := "<init>", desc := "(Ljava/lang/AbstractStringBuilder;Ljava/lang/Void;)V" } : Jvm.MethodName) jdk_42_method_150_code (5 : Nat) (Option.none : Option Jvm.ClassFile.FieldType)).before args0 about1 = true := code_word (m := ⟨7, 7⟩) (meth := k7m7) (c := k7c7) (by decide +kernel) rfl rfl rfl (by decide +kernel)
set_option maxRecDepth 65536 in
theorem w_c27 : (Jvm.Cond.code ({ cls := "java/lang/AbstractStringBuilder", name := "getValue", desc := "()[B" } : Jvm.MethodName) jdk_68_method_64_code (1 : Nat) (Option.some (Jvm.ClassFile.FieldType.array Jvm.ClassFile.FieldType.byte))).before args0 about1 = true := code_word (m := ⟨11, 7⟩) (meth := k11m7) (c := k11c7) (by decide +kernel) rfl rfl rfl (by decide +kernel)
set_option maxRecDepth 65536 in
theorem w_c28 : (Jvm.Cond.code ({ cls := "java/lang/StringBuilder", name := "length", desc := "()I" } : Jvm.MethodName) jdk_67_method_93_code (1 : Nat) (Option.some Jvm.ClassFile.FieldType.int)).before args0 about1 = true := code_word (m := ⟨12, 4⟩) (meth := k12m4) (c := k12c4) (by decide +kernel) rfl rfl rfl (by decide +kernel)
set_option maxRecDepth 65536 in
theorem w_c29 : (Jvm.Cond.code ({ cls := "java/lang/AbstractStringBuilder", name := "length", desc := "()I" } : Jvm.MethodName) jdk_68_method_6_code (1 : Nat) (Option.some Jvm.ClassFile.FieldType.int)).before args0 about1 = true := code_word (m := ⟨11, 2⟩) (meth := k11m2) (c := k11c2) (by decide +kernel) rfl rfl rfl (by decide +kernel)
set_option maxRecDepth 65536 in
theorem w_c30 : (Jvm.Cond.code ({ cls := "java/util/Arrays", name := "copyOfRange", desc := "([BII)[B" } : Jvm.MethodName) jdk_65_method_132_code (3 : Nat) (Option.some (Jvm.ClassFile.FieldType.array Jvm.ClassFile.FieldType.byte))).before args0 about1 = true := code_word (m := ⟨17, 3⟩) (meth := k17m3) (c := k17c3) (by decide +kernel) rfl rfl rfl (by decide +kernel)
set_option maxRecDepth 65536 in
theorem w_c31 : (Jvm.Cond.code ({ cls := "java/util/Arrays", name := "copyOfRangeByte", desc := "([BII)[B" } : Jvm.MethodName) jdk_65_method_133_code (5 : Nat) (Option.some (Jvm.ClassFile.FieldType.array Jvm.ClassFile.FieldType.byte))).before args0 about1 = true := code_word (m := ⟨17, 4⟩) (meth := k17m4) (c := k17c4) (by decide +kernel) rfl rfl rfl (by decide +kernel)
set_option maxRecDepth 65536 in
theorem w_c32 : (Jvm.Cond.code ({ cls := "java/util/Arrays", name := "checkLength", desc := "(II)V" } : Jvm.MethodName) jdk_65_method_131_code (2 : Nat) (Option.none : Option Jvm.ClassFile.FieldType)).before args0 about1 = true := code_word (m := ⟨17, 2⟩) (meth := k17m2) (c := k17c2) (by decide +kernel) rfl rfl rfl (by decide +kernel)
set_option maxRecDepth 65536 in
theorem w_c33 : (Jvm.Cond.code ({ cls := "java/lang/Math", name := "min", desc := "(II)I" } : Jvm.MethodName) jdk_29_method_69_code (2 : Nat) (Option.some Jvm.ClassFile.FieldType.int)).before args0 about1 = true := code_word (m := ⟨18, 2⟩) (meth := k18m2) (c := k18c2) (by decide +kernel) rfl rfl rfl (by decide +kernel)
set_option maxRecDepth 65536 in
theorem w_c34 : (Jvm.Cond.code ({ cls := "com/example/await_in_turn/awaitinturn/QueueEntryToStringPinLaw", name := "digits", desc := "(J)I" } : Jvm.MethodName) method_4_code (2 : Nat) (Option.some Jvm.ClassFile.FieldType.int)).before args0 about1 = true := code_word (m := ⟨1, 3⟩) (meth := k1m3) (c := k1c3) (by decide +kernel) rfl rfl rfl (by decide +kernel)
set_option maxRecDepth 65536 in
theorem w_c35 : (Jvm.Cond.code ({ cls := "java/lang/String", name := "charAt", desc := "(I)C" } : Jvm.MethodName) jdk_42_method_56_code (2 : Nat) (Option.some Jvm.ClassFile.FieldType.char)).before args0 about1 = true := code_word (m := ⟨7, 4⟩) (meth := k7m4) (c := k7c4) (by decide +kernel) rfl rfl rfl (by decide +kernel)
set_option maxRecDepth 65536 in
theorem w_c36 : (Jvm.Cond.code ({ cls := "java/lang/String", name := "isLatin1", desc := "()Z" } : Jvm.MethodName) jdk_42_method_154_code (1 : Nat) (Option.some Jvm.ClassFile.FieldType.boolean)).before args0 about1 = true := code_word (m := ⟨7, 9⟩) (meth := k7m9) (c := k7c9) (by decide +kernel) rfl rfl rfl (by decide +kernel)
set_option maxRecDepth 65536 in
theorem w_c37 : (Jvm.Cond.code ({ cls := "java/lang/StringLatin1", name := "charAt", desc := "([BI)C" } : Jvm.MethodName) jdk_43_method_2_code (2 : Nat) (Option.some Jvm.ClassFile.FieldType.char)).before args0 about1 = true := code_word (m := ⟨19, 1⟩) (meth := k19m1) (c := k19c1) (by decide +kernel) rfl rfl rfl (by decide +kernel)
set_option maxRecDepth 65536 in
theorem w_c38 : (Jvm.Cond.code ({ cls := "java/lang/String", name := "checkIndex", desc := "(II)V" } : Jvm.MethodName) jdk_42_method_155_code (2 : Nat) (Option.none : Option Jvm.ClassFile.FieldType)).before args0 about1 = true := code_word (m := ⟨7, 10⟩) (meth := k7m10) (c := k7c10) (by decide +kernel) rfl rfl rfl (by decide +kernel)
set_option maxRecDepth 65536 in
theorem w_c39 : (Jvm.Cond.code ({ cls := "jdk/internal/util/Preconditions", name := "checkIndex", desc := "(IILjava/util/function/BiFunction;)I" } : Jvm.MethodName) jdk_41_method_11_code (3 : Nat) (Option.some Jvm.ClassFile.FieldType.int)).before args0 about1 = true := code_word (m := ⟨20, 1⟩) (meth := k20m1) (c := k20c1) (by decide +kernel) rfl rfl rfl (by decide +kernel)
set_option maxRecDepth 65536 in
theorem w_c40 : (Jvm.Cond.code ({ cls := "com/example/await_in_turn/awaitinturn/QueueEntryToStringPinLaw", name := "dig", desc := "(Ljava/lang/String;IJIIJ)Z" } : Jvm.MethodName) method_3_code (10 : Nat) (Option.some Jvm.ClassFile.FieldType.boolean)).before args0 about1 = true := code_word (m := ⟨1, 2⟩) (meth := k1m2) (c := k1c2) (by decide +kernel) rfl rfl rfl (by decide +kernel)
set_option maxRecDepth 65536 in
theorem w_c41 : (Jvm.Cond.code ({ cls := "java/lang/AbstractStringBuilder", name := "newCapacity", desc := "(I)I" } : Jvm.MethodName) jdk_68_method_10_code (6 : Nat) (Option.some Jvm.ClassFile.FieldType.int)).before args0 about1 = true := code_word (m := ⟨11, 4⟩) (meth := k11m4) (c := k11c4) (by decide +kernel) rfl rfl rfl (by decide +kernel)
set_option maxRecDepth 65536 in
theorem w_c42 : (Jvm.Cond.code ({ cls := "jdk/internal/util/ArraysSupport", name := "newLength", desc := "(III)I" } : Jvm.MethodName) jdk_48_method_27_code (4 : Nat) (Option.some Jvm.ClassFile.FieldType.int)).before args0 about1 = true := code_word (m := ⟨21, 1⟩) (meth := k21m1) (c := k21c1) (by decide +kernel) rfl rfl rfl (by decide +kernel)
set_option maxRecDepth 65536 in
theorem w_c43 : (Jvm.Cond.code ({ cls := "java/lang/Math", name := "max", desc := "(II)I" } : Jvm.MethodName) jdk_29_method_65_code (2 : Nat) (Option.some Jvm.ClassFile.FieldType.int)).before args0 about1 = true := code_word (m := ⟨18, 1⟩) (meth := k18m1) (c := k18c1) (by decide +kernel) rfl rfl rfl (by decide +kernel)
set_option maxRecDepth 65536 in
theorem w_c44 : (Jvm.Cond.code ({ cls := "java/util/Arrays", name := "copyOf", desc := "([BI)[B" } : Jvm.MethodName) jdk_65_method_121_code (3 : Nat) (Option.some (Jvm.ClassFile.FieldType.array Jvm.ClassFile.FieldType.byte))).before args0 about1 = true := code_word (m := ⟨17, 1⟩) (meth := k17m1) (c := k17c1) (by decide +kernel) rfl rfl rfl (by decide +kernel)
def codes1 : List Jvm.Cond := [Jvm.Cond.code x code maxLocals ret, Jvm.Cond.code ({ cls := "java/lang/String", name := "<init>", desc := "([C)V" } : Jvm.MethodName) jdk_42_method_3_code (2 : Nat) (Option.none : Option Jvm.ClassFile.FieldType), Jvm.Cond.code ({ cls := "java/lang/String", name := "<init>", desc := "([CIILjava/lang/Void;)V" } : Jvm.MethodName) jdk_42_method_149_code (6 : Nat) (Option.none : Option Jvm.ClassFile.FieldType), Jvm.Cond.code ({ cls := "java/lang/Object", name := "<init>", desc := "()V" } : Jvm.MethodName) object_method_1_code (1 : Nat) (Option.none : Option Jvm.ClassFile.FieldType), Jvm.Cond.code ({ cls := "java/lang/StringUTF16", name := "compress", desc := "([CII)[B" } : Jvm.MethodName) jdk_52_method_16_code (6 : Nat) (Option.some (Jvm.ClassFile.FieldType.array Jvm.ClassFile.FieldType.byte)), Jvm.Cond.code ({ cls := "java/lang/StringUTF16", name := "compress", desc := "([CI[BII)I" } : Jvm.MethodName) jdk_52_method_21_code (7 : Nat) (Option.some Jvm.ClassFile.FieldType.int), Jvm.Cond.code ({ cls := "java/lang/StringUTF16", name := "coderFromArrayLen", desc := "([BI)B" } : Jvm.MethodName) jdk_52_method_15_code (2 : Nat) (Option.some Jvm.ClassFile.FieldType.byte), Jvm.Cond.code ({ cls := "com/example/await_in_turn/awaitinturn/QueueEntry", name := "<init>", desc := "(Ljava/lang/String;J)V" } : Jvm.MethodName) prog_10_method_1_code (4 : Nat) (Option.none : Option Jvm.ClassFile.FieldType), Jvm.Cond.code ({ cls := "com/example/await_in_turn/awaitinturn/QueueEntry", name := "toString", desc := "()Ljava/lang/String;" } : Jvm.MethodName) prog_10_method_4_code (1 : Nat) (Option.some (Jvm.ClassFile.FieldType.object "java/lang/String")), Jvm.Cond.code ({ cls := "java/lang/StringBuilder", name := "<init>", desc := "()V" } : Jvm.MethodName) jdk_67_method_1_code (1 : Nat) (Option.none : Option Jvm.ClassFile.FieldType), Jvm.Cond.code ({ cls := "java/lang/AbstractStringBuilder", name := "<init>", desc := "(I)V" } : Jvm.MethodName) jdk_68_method_2_code (2 : Nat) (Option.none : Option Jvm.ClassFile.FieldType), Jvm.Cond.code ({ cls := "java/lang/StringBuilder", name := "append", desc := "(Ljava/lang/String;)Ljava/lang/StringBuilder;" } : Jvm.MethodName) jdk_67_method_7_code (2 : Nat) (Option.some (Jvm.ClassFile.FieldType.object "java/lang/StringBuilder")), Jvm.Cond.code ({ cls := "java/lang/AbstractStringBuilder", name := "append", desc := "(Ljava/lang/String;)Ljava/lang/AbstractStringBuilder;" } : Jvm.MethodName) jdk_68_method_22_code (3 : Nat) (Option.some (Jvm.ClassFile.FieldType.object "java/lang/AbstractStringBuilder")), Jvm.Cond.code ({ cls := "java/lang/String", name := "length", desc := "()I" } : Jvm.MethodName) jdk_42_method_54_code (1 : Nat) (Option.some Jvm.ClassFile.FieldType.int), Jvm.Cond.code ({ cls := "java/lang/String", name := "coder", desc := "()B" } : Jvm.MethodName) jdk_42_method_152_code (1 : Nat) (Option.some Jvm.ClassFile.FieldType.byte), Jvm.Cond.code ({ cls := "java/lang/AbstractStringBuilder", name := "ensureCapacityInternal", desc := "(I)V" } : Jvm.MethodName) jdk_68_method_9_code (3 : Nat) (Option.none : Option Jvm.ClassFile.FieldType), Jvm.Cond.code ({ cls := "java/lang/AbstractStringBuilder", name := "putStringAt", desc := "(ILjava/lang/String;)V" } : Jvm.MethodName) jdk_68_method_73_code (3 : Nat) (Option.none : Option Jvm.ClassFile.FieldType), Jvm.Cond.code ({ cls := "java/lang/AbstractStringBuilder", name := "inflateIfNeededFor", desc := "(Ljava/lang/String;)V" } : Jvm.MethodName) jdk_68_method_71_code (2 : Nat) (Option.none : Option Jvm.ClassFile.FieldType), Jvm.Cond.code ({ cls := "java/lang/String", name := "getBytes", desc := "([BIB)V" } : Jvm.MethodName) jdk_42_method_147_code (4 : Nat) (Option.none : Option Jvm.ClassFile.FieldType), Jvm.Cond.code ({ cls := "java/lang/StringBuilder", name := "append", desc := "(J)Ljava/lang/StringBuilder;" } : Jvm.MethodName) jdk_67_method_16_code (3 : Nat) (Option.some (Jvm.ClassFile.FieldType.object "java/lang/StringBuilder")), Jvm.Cond.code ({ cls := "java/lang/AbstractStringBuilder", name := "append", desc := "(J)Ljava/lang/AbstractStringBuilder;" } : Jvm.MethodName) jdk_68_method_33_code (5 : Nat) (Option.some (Jvm.ClassFile.FieldType.object "java/lang/AbstractStringBuilder")), Jvm.Cond.code ({ cls := "java/lang/Long", name := "stringSize", desc := "(J)I" } : Jvm.MethodName) jdk_35_method_15_code (6 : Nat) (Option.some Jvm.ClassFile.FieldType.int), Jvm.Cond.code ({ cls := "java/lang/AbstractStringBuilder", name := "isLatin1", desc := "()Z" } : Jvm.MethodName) jdk_68_method_68_code (1 : Nat) (Option.some Jvm.ClassFile.FieldType.boolean), Jvm.Cond.code ({ cls := "java/lang/Long", name := "getChars", desc := "(JI[B)I" } : Jvm.MethodName) jdk_35_method_14_code (11 : Nat) (Option.some Jvm.ClassFile.FieldType.int), Jvm.Cond.code ({ cls := "java/lang/StringBuilder", name := "toString", desc := "()Ljava/lang/String;" } : Jvm.MethodName) jdk_67_method_42_code (1 : Nat) (Option.some (Jvm.ClassFile.FieldType.object "java/lang/String")), Jvm.Cond.code ({ cls := "java/lang/String", name := "<init>", desc := "(Ljava/lang/StringBuilder;)V" } : Jvm.MethodName) jdk_42_method_53_code (2 : Nat) (Option.none : Option Jvm.ClassFile.FieldType), Jvm.Cond.code ({ cls := "java/lang/String", name := "<init>", desc := "(Ljava/lang/AbstractStringBuilder;Ljava/lang/Void;)V" } : Jvm.MethodName) jdk_42_method_150_code (5 : Nat) (Option.none : Option Jvm.ClassFile.FieldType), Jvm.Cond.code ({ cls := "java/lang/AbstractStringBuilder", name := "getValue", desc := "()[B" } : Jvm.MethodName) jdk_68_method_64_code (1 : Nat) (Option.some (Jvm.ClassFile.FieldType.array Jvm.ClassFile.FieldType.byte)), Jvm.Cond.code ({ cls := "java/lang/StringBuilder", name := "length", desc := "()I" } : Jvm.MethodName) jdk_67_method_93_code (1 : Nat) (Option.some Jvm.ClassFile.FieldType.int), Jvm.Cond.code ({ cls := "java/lang/AbstractStringBuilder", name := "length", desc := "()I" } : Jvm.MethodName) jdk_68_method_6_code (1 : Nat) (Option.some Jvm.ClassFile.FieldType.int), Jvm.Cond.code ({ cls := "java/util/Arrays", name := "copyOfRange", desc := "([BII)[B" } : Jvm.MethodName) jdk_65_method_132_code (3 : Nat) (Option.some (Jvm.ClassFile.FieldType.array Jvm.ClassFile.FieldType.byte)), Jvm.Cond.code ({ cls := "java/util/Arrays", name := "copyOfRangeByte", desc := "([BII)[B" } : Jvm.MethodName) jdk_65_method_133_code (5 : Nat) (Option.some (Jvm.ClassFile.FieldType.array Jvm.ClassFile.FieldType.byte)), Jvm.Cond.code ({ cls := "java/util/Arrays", name := "checkLength", desc := "(II)V" } : Jvm.MethodName) jdk_65_method_131_code (2 : Nat) (Option.none : Option Jvm.ClassFile.FieldType), Jvm.Cond.code ({ cls := "java/lang/Math", name := "min", desc := "(II)I" } : Jvm.MethodName) jdk_29_method_69_code (2 : Nat) (Option.some Jvm.ClassFile.FieldType.int), Jvm.Cond.code ({ cls := "com/example/await_in_turn/awaitinturn/QueueEntryToStringPinLaw", name := "digits", desc := "(J)I" } : Jvm.MethodName) method_4_code (2 : Nat) (Option.some Jvm.ClassFile.FieldType.int), Jvm.Cond.code ({ cls := "java/lang/String", name := "charAt", desc := "(I)C" } : Jvm.MethodName) jdk_42_method_56_code (2 : Nat) (Option.some Jvm.ClassFile.FieldType.char), Jvm.Cond.code ({ cls := "java/lang/String", name := "isLatin1", desc := "()Z" } : Jvm.MethodName) jdk_42_method_154_code (1 : Nat) (Option.some Jvm.ClassFile.FieldType.boolean), Jvm.Cond.code ({ cls := "java/lang/StringLatin1", name := "charAt", desc := "([BI)C" } : Jvm.MethodName) jdk_43_method_2_code (2 : Nat) (Option.some Jvm.ClassFile.FieldType.char), Jvm.Cond.code ({ cls := "java/lang/String", name := "checkIndex", desc := "(II)V" } : Jvm.MethodName) jdk_42_method_155_code (2 : Nat) (Option.none : Option Jvm.ClassFile.FieldType), Jvm.Cond.code ({ cls := "jdk/internal/util/Preconditions", name := "checkIndex", desc := "(IILjava/util/function/BiFunction;)I" } : Jvm.MethodName) jdk_41_method_11_code (3 : Nat) (Option.some Jvm.ClassFile.FieldType.int), Jvm.Cond.code ({ cls := "com/example/await_in_turn/awaitinturn/QueueEntryToStringPinLaw", name := "dig", desc := "(Ljava/lang/String;IJIIJ)Z" } : Jvm.MethodName) method_3_code (10 : Nat) (Option.some Jvm.ClassFile.FieldType.boolean), Jvm.Cond.code ({ cls := "java/lang/AbstractStringBuilder", name := "newCapacity", desc := "(I)I" } : Jvm.MethodName) jdk_68_method_10_code (6 : Nat) (Option.some Jvm.ClassFile.FieldType.int), Jvm.Cond.code ({ cls := "jdk/internal/util/ArraysSupport", name := "newLength", desc := "(III)I" } : Jvm.MethodName) jdk_48_method_27_code (4 : Nat) (Option.some Jvm.ClassFile.FieldType.int), Jvm.Cond.code ({ cls := "java/lang/Math", name := "max", desc := "(II)I" } : Jvm.MethodName) jdk_29_method_65_code (2 : Nat) (Option.some Jvm.ClassFile.FieldType.int), Jvm.Cond.code ({ cls := "java/util/Arrays", name := "copyOf", desc := "([BI)[B" } : Jvm.MethodName) jdk_65_method_121_code (3 : Nat) (Option.some (Jvm.ClassFile.FieldType.array Jvm.ClassFile.FieldType.byte))]
set_option maxRecDepth 65536 in
theorem codes_eq : words1.filter isCode = codes1 := rfl
theorem w_codes : ∀ c ∈ words1.filter isCode, c.before args0 about1 = true := by
  rw [codes_eq]
  intro c hc
  simp only [codes1, List.mem_cons, List.not_mem_nil, or_false] at hc
  rcases hc with rfl | rfl | rfl | rfl | rfl | rfl | rfl | rfl | rfl | rfl | rfl | rfl | rfl | rfl | rfl | rfl | rfl | rfl | rfl | rfl | rfl | rfl | rfl | rfl | rfl | rfl | rfl | rfl | rfl | rfl | rfl | rfl | rfl | rfl | rfl | rfl | rfl | rfl | rfl | rfl | rfl | rfl | rfl | rfl | rfl
  · exact w_c0
  · exact w_c1
  · exact w_c2
  · exact w_c3
  · exact w_c4
  · exact w_c5
  · exact w_c6
  · exact w_c7
  · exact w_c8
  · exact w_c9
  · exact w_c10
  · exact w_c11
  · exact w_c12
  · exact w_c13
  · exact w_c14
  · exact w_c15
  · exact w_c16
  · exact w_c17
  · exact w_c18
  · exact w_c19
  · exact w_c20
  · exact w_c21
  · exact w_c22
  · exact w_c23
  · exact w_c24
  · exact w_c25
  · exact w_c26
  · exact w_c27
  · exact w_c28
  · exact w_c29
  · exact w_c30
  · exact w_c31
  · exact w_c32
  · exact w_c33
  · exact w_c34
  · exact w_c35
  · exact w_c36
  · exact w_c37
  · exact w_c38
  · exact w_c39
  · exact w_c40
  · exact w_c41
  · exact w_c42
  · exact w_c43
  · exact w_c44
set_option maxRecDepth 65536 in
theorem w_t1 : (words1.take 24).all (fun c => isCode c || c.before args0 about1) = true := by decide +kernel
set_option maxRecDepth 65536 in
theorem w_t2 : ((words1.drop 24).take 24).all (fun c => isCode c || c.before args0 about1) = true := by decide +kernel
set_option maxRecDepth 65536 in
theorem w_t3 : (((words1.drop 24).drop 24).take 24).all (fun c => isCode c || c.before args0 about1) = true := by decide +kernel
set_option maxRecDepth 65536 in
theorem w_t4 : ((((words1.drop 24).drop 24).drop 24).take 24).all (fun c => isCode c || c.before args0 about1) = true := by decide +kernel
set_option maxRecDepth 65536 in
theorem w_t5 : (((((words1.drop 24).drop 24).drop 24).drop 24).take 24).all (fun c => isCode c || c.before args0 about1) = true := by decide +kernel
set_option maxRecDepth 65536 in
theorem w_t6 : ((((((words1.drop 24).drop 24).drop 24).drop 24).drop 24).take 24).all (fun c => isCode c || c.before args0 about1) = true := by decide +kernel
set_option maxRecDepth 65536 in
theorem w_t7 : (((((((words1.drop 24).drop 24).drop 24).drop 24).drop 24).drop 24).take 24).all (fun c => isCode c || c.before args0 about1) = true := by decide +kernel
set_option maxRecDepth 65536 in
theorem w_t8 : ((((((((words1.drop 24).drop 24).drop 24).drop 24).drop 24).drop 24).drop 24).take 24).all (fun c => isCode c || c.before args0 about1) = true := by decide +kernel
set_option maxRecDepth 65536 in
theorem w_t9 : (((((((((words1.drop 24).drop 24).drop 24).drop 24).drop 24).drop 24).drop 24).drop 24).take 24).all (fun c => isCode c || c.before args0 about1) = true := by decide +kernel
set_option maxRecDepth 65536 in
theorem w_t10 : ((((((((((words1.drop 24).drop 24).drop 24).drop 24).drop 24).drop 24).drop 24).drop 24).drop 24).take 24).all (fun c => isCode c || c.before args0 about1) = true := by decide +kernel
set_option maxRecDepth 65536 in
theorem w_t11 : (((((((((((words1.drop 24).drop 24).drop 24).drop 24).drop 24).drop 24).drop 24).drop 24).drop 24).drop 24).take 24).all (fun c => isCode c || c.before args0 about1) = true := by decide +kernel
set_option maxRecDepth 65536 in
theorem w_t12 : (((((((((((words1.drop 24).drop 24).drop 24).drop 24).drop 24).drop 24).drop 24).drop 24).drop 24).drop 24).drop 24).all (fun c => isCode c || c.before args0 about1) = true := by decide +kernel
theorem w_tables : (allAtoms (Jvm.Cond.code x code maxLocals ret :: tables_1)).before args0 about1 = true := by
  rw [allAtoms_all]
  show words1.all (fun c => c.before args0 about1) = true
  refine all_split ?_ w_codes
  rw [← List.take_append_drop 24 words1, List.all_append, w_t1, ← List.take_append_drop 24 (words1.drop 24), List.all_append, w_t2, ← List.take_append_drop 24 ((words1.drop 24).drop 24), List.all_append, w_t3, ← List.take_append_drop 24 (((words1.drop 24).drop 24).drop 24), List.all_append, w_t4, ← List.take_append_drop 24 ((((words1.drop 24).drop 24).drop 24).drop 24), List.all_append, w_t5, ← List.take_append_drop 24 (((((words1.drop 24).drop 24).drop 24).drop 24).drop 24), List.all_append, w_t6, ← List.take_append_drop 24 ((((((words1.drop 24).drop 24).drop 24).drop 24).drop 24).drop 24), List.all_append, w_t7, ← List.take_append_drop 24 (((((((words1.drop 24).drop 24).drop 24).drop 24).drop 24).drop 24).drop 24), List.all_append, w_t8, ← List.take_append_drop 24 ((((((((words1.drop 24).drop 24).drop 24).drop 24).drop 24).drop 24).drop 24).drop 24), List.all_append, w_t9, ← List.take_append_drop 24 (((((((((words1.drop 24).drop 24).drop 24).drop 24).drop 24).drop 24).drop 24).drop 24).drop 24), List.all_append, w_t10, ← List.take_append_drop 24 ((((((((((words1.drop 24).drop 24).drop 24).drop 24).drop 24).drop 24).drop 24).drop 24).drop 24).drop 24), List.all_append, w_t11, w_t12]
  rfl
set_option maxRecDepth 65536 in
theorem w_rest : rest_1_c.before args0 about1 = true := by decide +kernel
set_option maxRecDepth 65536 in
theorem w_case : (Jvm.Cond.and given_1 narrow_1).before args0 about1 = true := by decide +kernel
set_option maxRecDepth 65536 in
theorem w_consts : constsHeld consts_1 about1 := Jvm.Lit.constsHeldB_iff.mp (by decide +kernel)
theorem w_applies : (headSpec (Jvm.Cond.code x code maxLocals ret :: tables_1) room_1).applies x e0.platform about1 = true :=
  (Spec.applies_iff w_frames).mpr ⟨w_running, w_runnable, w_alone, w_named, w_hears, w_ripe, w_room, w_tables⟩
theorem atStart : AtStart classFile x code maxLocals ret World_1 tables_1 room_1 Calls_1 rest_1 Pre_1 launch0 p0 e0 about1 theMethod args0 below0 :=
  ⟨lists_1, trivial, launch0.admits_env _ _ _, launch0.least_env, fairChoices_fair.cas, fairChoices_fair.clock, w_frames, w_args, w_heap, w_applies, ⟨w_consts, trivial⟩, w_rest, w_case⟩
end start1
theorem witness_1 : WitnessClaimed_1 := ⟨start1.p0, start1.e0, start1.about1, start1.theMethod, start1.args0, start1.below0, start1.atStart⟩
end Jvm.Pilot.@@N@@
